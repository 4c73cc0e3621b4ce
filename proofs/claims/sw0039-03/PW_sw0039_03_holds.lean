import PyProof.Rows.All
import Wide.All
import OpenK.AllK
import Wide.FinOn
import PySem.Challenge.RW_sw0039_03
open PySem PySem.W PySem.Calls PyProof.Rows
set_option Elab.async false
set_option maxRecDepth 100000
set_option linter.all false
set_option maxHeartbeats 8000000
set_option genSizeOf false
namespace Mine
noncomputable section
/-- abstract values: what a concrete value says, whatever its token; a tuple is its items -/
inductive V where
  | none | bool (b : Bool) | int (i : Int) | str (x : Str) | bytes (b : Array UInt8)
  | ref (a : Addr) | bi (id : String) | ty (n : String) | tup (vs : List V)

mutual
noncomputable def VRel (X : List Addr) (h : Heap) : V → Value → Prop
  | .none, v => v = .none
  | .bool b, v => v = .bool b
  | .int i, v => ∃ t, v = .int i t
  | .str x, v => ∃ t, v = .str x t
  | .bytes b, v => ∃ t, v = .bytes b t
  | .ref a, v => v = .ref a
  | .bi id, v => v = .builtin id
  | .ty n, v => v = .type n
  | .tup vs, v => ∃ a items, v = .ref a ∧ a ∉ X ∧ h.IsTuple a items ∧ VsRel X h vs items.toList
noncomputable def VsRel (X : List Addr) (h : Heap) : List V → List Value → Prop
  | [], l => l = []
  | x :: xs, l => ∃ v r, l = v :: r ∧ VRel X h x v ∧ VsRel X h xs r
end

/-- objects that nobody changes: tuples, code records -/
noncomputable def Frozen (X : List Addr) (a : Addr) (o : Obj) : Prop := (a ∉ X ∧ o.cls = .type "tuple" ∧ ∃ items n, o.data = .seq items n) ∨ (o.cls = .type "code" ∧ ∃ vs, o.data = .fields vs)
noncomputable def Fz (X : List Addr) (h h' : Heap) : Prop := ∀ a o, h.get? a = some o → Frozen X a o → h'.get? a = some o


theorem IsTuple.fz {X : List Addr} {h h' : Heap} {a : Addr} {items : Array Value} (x : Fz X h h') (hX : a ∉ X) (t : h.IsTuple a items) : h'.IsTuple a items :=
  let ⟨o, ho, hc, n, r⟩ := t; ⟨o, x a o ho (.inl ⟨hX, hc, _, _, r⟩), hc, n, r⟩

mutual
theorem VRel.fz {X : List Addr} {h h' : Heap} (x : Fz X h h') : ∀ {u : V} {v : Value}, VRel X h u v → VRel X h' u v
  | .none, _, r => by simpa only [VRel] using r
  | .bool _, _, r => by simpa only [VRel] using r
  | .int _, _, r => by simpa only [VRel] using r
  | .str _, _, r => by simpa only [VRel] using r
  | .bytes _, _, r => by simpa only [VRel] using r
  | .ref _, _, r => by simpa only [VRel] using r
  | .bi _, _, r => by simpa only [VRel] using r
  | .ty _, _, r => by simpa only [VRel] using r
  | .tup vs, v, r => by
    simp only [VRel] at r ⊢
    obtain ⟨a, items, e, hX, t, q⟩ := r
    exact ⟨a, items, e, hX, IsTuple.fz x hX t, VsRel.fz x q⟩
theorem VsRel.fz {X : List Addr} {h h' : Heap} (x : Fz X h h') : ∀ {us : List V} {vs : List Value}, VsRel X h us vs → VsRel X h' us vs
  | [], _, r => by simpa only [VsRel] using r
  | u :: us, vs, r => by
    simp only [VsRel] at r ⊢
    obtain ⟨v, l, e, q, q'⟩ := r
    exact ⟨v, l, e, VRel.fz x q, VsRel.fz x q'⟩
end

theorem VsRel.length {X : List Addr} {h : Heap} : ∀ {us : List V} {vs : List Value}, VsRel X h us vs → vs.length = us.length
  | [], _, r => by simp only [VsRel] at r; simp [r]
  | u :: us, vs, r => by
    simp only [VsRel] at r
    obtain ⟨v, l, e, _, q'⟩ := r
    simp [e, VsRel.length q']
theorem VsRel.nil {X : List Addr} {h : Heap} : VsRel X h [] [] := by simp only [VsRel]
theorem VsRel.cons {X : List Addr} {h : Heap} {u : V} {v : Value} {us : List V} {vs : List Value} (q : VRel X h u v) (r : VsRel X h us vs) : VsRel X h (u :: us) (v :: vs) := by
  simp only [VsRel]; exact ⟨v, vs, rfl, q, r⟩
theorem VsRel.get {X : List Addr} {h : Heap} : ∀ {us : List V} {vs : List Value} {i : Nat} {u : V}, VsRel X h us vs → us[i]? = some u → ∃ v, vs[i]? = some v ∧ VRel X h u v
  | [], _, _, _, _, e => by simp at e
  | x :: us, vs, i, u, r, e => by
    simp only [VsRel] at r
    obtain ⟨v, l, rfl, q, q'⟩ := r
    cases i with
    | zero => simp at e; subst e; exact ⟨v, by simp, q⟩
    | succ i => simp at e; obtain ⟨w, hw, hr⟩ := VsRel.get q' e; exact ⟨w, by simpa using hw, hr⟩
theorem VsRel.append {X : List Addr} {h : Heap} : ∀ {us us' : List V} {vs vs' : List Value}, VsRel X h us vs → VsRel X h us' vs' → VsRel X h (us ++ us') (vs ++ vs')
  | [], _, _, _, r, r' => by simp only [VsRel] at r; subst r; simpa using r'
  | x :: us, _, vs, _, r, r' => by
    simp only [VsRel] at r
    obtain ⟨v, l, rfl, q, q'⟩ := r
    exact VsRel.cons q (VsRel.append q' r')
theorem VsRel.of_get {X : List Addr} {h : Heap} : ∀ {us : List V} {vs : List Value}, vs.length = us.length → (∀ (i : Nat) (u : V), us[i]? = some u → ∃ v : Value, vs[i]? = some v ∧ VRel X h u v) → VsRel X h us vs
  | [], vs, e, _ => by simp only [VsRel]; exact List.length_eq_zero_iff.mp e
  | u :: us, [], e, _ => by simp at e
  | u :: us, v :: vs, e, k => by
    obtain ⟨w, hw, hr⟩ := k 0 u (by simp)
    simp at hw; subst hw
    exact VsRel.cons hr (VsRel.of_get (by simpa using e) fun i u' hu => by simpa using k (i + 1) u' (by simpa using hu))

/-- what a frame's namespace says of its names, in the names' order -/
noncomputable def NsRel (X : List Addr) (h : Heap) (m : Str → Option Value) : List Str → List (Option V) → Prop
  | [], l => l = []
  | n :: ns, l => ∃ o r, l = o :: r ∧ (∀ u, o = some u → ∃ v, m n = some v ∧ VRel X h u v) ∧ NsRel X h m ns r

theorem NsRel.fz {X : List Addr} {h h' : Heap} {m : Str → Option Value} (x : Fz X h h') : ∀ {ns : List Str} {os : List (Option V)}, NsRel X h m ns os → NsRel X h' m ns os
  | [], _, r => r
  | n :: ns, l, ⟨o, r, e, q, q'⟩ => ⟨o, r, e, fun u hu => let ⟨v, a, b⟩ := q u hu; ⟨v, a, b.fz x⟩, NsRel.fz x q'⟩

inductive At : List Str → List (Option V) → Str → V → Prop
  | head {x ns v os} : At (x :: ns) (some v :: os) x v
  | tail {n ns o os x v} : At ns os x v → At (n :: ns) (o :: os) x v
inductive Put : List Str → List (Option V) → Str → V → List (Option V) → Prop
  | head {x ns o v os} : Put (x :: ns) (o :: os) x v (some v :: os)
  | tail {n ns o os x v os'} : Put ns os x v os' → Put (n :: ns) (o :: os) x v (o :: os')

theorem At.get {X : List Addr} {h : Heap} {m : Str → Option Value} {ns os x v} (a : At ns os x v) : NsRel X h m ns os → ∃ w, m x = some w ∧ VRel X h v w := by
  induction a with
  | head => rintro ⟨o, r, e, q, _⟩; cases e; exact q _ rfl
  | tail _ ih => rintro ⟨o, r, e, _, q⟩; cases e; exact ih q
theorem At.mem {ns os x v} (a : At ns os x v) : x ∈ ns := by
  induction a with
  | head => exact .head _
  | tail _ ih => exact .tail _ ih
theorem Put.mem {ns os x v os'} (a : Put ns os x v os') : x ∈ ns := by
  induction a with
  | head => exact .head _
  | tail _ ih => exact .tail _ ih
theorem NsRel.other {X : List Addr} {h : Heap} {m m' : Str → Option Value} : ∀ {ns os}, NsRel X h m ns os → (∀ n ∈ ns, m' n = m n) → NsRel X h m' ns os
  | [], _, r, _ => r
  | n :: ns, _, ⟨o, r, e, q, q'⟩, k => ⟨o, r, e, fun u hu => by rw [k n (.head _)]; exact q u hu, q'.other fun n hn => k n (.tail _ hn)⟩
theorem Put.rel {X : List Addr} {h : Heap} {m : Str → Option Value} {ns os x v os' w} (a : Put ns os x v os') (hv : VRel X h v w) : ns.Nodup → NsRel X h m ns os → NsRel X h (fun y => if y = x then some w else m y) ns os' := by
  induction a with
  | head =>
    rintro nd ⟨o, r, e, _, q⟩; cases e
    refine ⟨_, _, rfl, fun u hu => ?_, q.other fun n hn => ?_⟩
    · cases hu; exact ⟨w, by simp, hv⟩
    · exact if_neg fun e => (List.nodup_cons.mp nd).1 (by rw [← e]; exact hn)
  | tail a ih =>
    rintro nd ⟨o, r, e, q, q'⟩; cases e
    obtain ⟨h1, h2⟩ := List.nodup_cons.mp nd
    refine ⟨_, _, rfl, fun u hu => ?_, ih hv h2 q'⟩
    obtain ⟨v', e1, e2⟩ := q u hu
    exact ⟨v', (if_neg fun e => h1 (by rw [e]; exact a.mem)).trans e1, e2⟩

/-- a function made by the program itself (a closure): what a call of it needs -/
structure FnA where
  qual : Str
  params : Arguments
  body : FuncBody
  scope : Scope
  closure : List (Str × Addr)

/-- tracked objects -/
inductive AO where
  | list (vs : List V)
  | ns (names : List Str) (vals : List (Option V))
  | cell (v : Option V)
  | attrs (es : List (Str × V))
  | obj (o : Obj)
  | fn (f : FnA)
  | fobj (d : Addr)
  | tab (qual : Str)
  | dict (es : List (Str × V))

noncomputable def EsRel (X : List Addr) (h : Heap) : List (Str × V) → List DictEntry → Prop
  | [], l => l = []
  | (k, u) :: es, l => ∃ e r, l = e :: r ∧ (∃ t, e.key = .str k t) ∧ VRel X h u e.val ∧ EsRel X h es r

theorem EsRel.fz {X : List Addr} {h h' : Heap} (x : Fz X h h') : ∀ {es : List (Str × V)} {l : List DictEntry}, EsRel X h es l → EsRel X h' es l
  | [], _, r => r
  | (k, u) :: es, l, ⟨e, r, a, b, c, d⟩ => ⟨e, r, a, b, c.fz x, d.fz x⟩

noncomputable abbrev AH := List (Addr × AO)

structure Cfg where
  prog : Program
  w : World
  K : Frag
  B : Heap
  os : OsState
  X : List Addr
  mg : Str → Option Value
  mb : Str → Option Value

/-- a code record that is never changed, with its own qualified name -/
noncomputable def CodeF (h : Heap) (cd : Value) (q : Str) : Prop := ∃ c o vs t, cd = .ref c ∧ h.get? c = some o ∧ o.cls = .type "code" ∧ o.data = .fields vs ∧ vs[1]? = some (.str q t)
theorem CodeF.fz {X : List Addr} {h h' : Heap} {cd : Value} {q : Str} (x : Fz X h h') : CodeF h cd q → CodeF h' cd q := fun ⟨c, o, vs, t, a, b, d, e⟩ => ⟨c, o, vs, t, a, x c o b (.inr ⟨d, _, e.1⟩), d, e⟩
theorem CodeF.rec {h : Heap} {cd : Value} {q : Str} : CodeF h cd q → h.CodeRec cd q := fun ⟨c, o, vs, t, a, b, _, e⟩ => ⟨c, o, vs, t, a, b, e⟩

noncomputable def ORel (X : List Addr) (h : Heap) (a : Addr) : AO → Prop
  | .list vs => ∃ items, h.PlainList a items ∧ VsRel X h vs items.toList
  | .ns names vals => names.Nodup ∧ ∃ m, h.Ns a m ∧ NsRel X h m names vals
  | .cell u => ∃ v, h.IsCell a v ∧ ∀ x, u = some x → ∃ y, v = some y ∧ VRel X h x y
  | .attrs es => ∃ l n, h.get? a = some (dictOf l n) ∧ EsRel X h es l
  | .obj o => h.get? a = some o ∧ ¬ Frozen X a o
  | .fn f => ∃ o fd, h.get? a = some o ∧ o.cls = .type "function" ∧ o.data = .func fd ∧ fd.qualname = f.qual ∧ fd.params = f.params ∧ fd.body = f.body ∧ fd.scope = f.scope ∧ fd.closure = f.closure ∧
      fd.globals = mainGlobals ∧ fd.builtins = builtinsNs ∧ fd.defaults = .none ∧ fd.kwdefaults = .none ∧ CodeF h fd.code fd.qualname ∧ o.dict = none ∧ o.slots = #[]
  | .fobj d => ∃ fd, h.get? a = some { cls := .type "function", dict := some d, data := .func fd }
  | .tab q => ∃ ps, h.get? a = some (tabObj ps) ∧ TriplesOk ps.toList ∧ ∀ pos c, codeAmong pos ps.toList = some c → CodeF h c q
  | .dict es => ∃ l n, h.get? a = some (dictOf l n) ∧ EsRel X h es l

theorem ORel.live {X : List Addr} {h : Heap} {a : Addr} : ∀ {x : AO}, ORel X h a x → ∃ o, h.get? a = some o ∧ ¬ Frozen X a o
  | .list _, ⟨_, ⟨n, e⟩, _⟩ => ⟨_, e, by simp [Frozen]⟩
  | .ns _ _, ⟨_, _, ⟨o, es, ep, e, hd, _⟩, _⟩ => ⟨o, e, by simp [Frozen, hd]⟩
  | .cell _, ⟨_, ⟨o, e, hd⟩, _⟩ => ⟨o, e, by simp [Frozen, hd]⟩
  | .attrs _, ⟨l, n, e, _⟩ => ⟨_, e, by simp [Frozen]⟩
  | .obj _, ⟨e, f⟩ => ⟨_, e, f⟩
  | .fn _, ⟨o, _, e, c, _⟩ => ⟨o, e, by simp [Frozen, c]⟩
  | .fobj _, ⟨_, e⟩ => ⟨_, e, by simp [Frozen]⟩
  | .tab _, ⟨_, e, _⟩ => ⟨_, e, by simp [Frozen]⟩
  | .dict _, ⟨l, n, e, _⟩ => ⟨_, e, by simp [Frozen]⟩

theorem ORel.move {X : List Addr} {h h' : Heap} {a : Addr} (x : Fz X h h') (k : ∀ o, h.get? a = some o → h'.get? a = some o) : ∀ {u : AO}, ORel X h a u → ORel X h' a u
  | .list _, ⟨items, ⟨n, e⟩, r⟩ => ⟨items, ⟨n, k _ e⟩, r.fz x⟩
  | .ns _ _, ⟨nd, m, n, r⟩ => ⟨nd, m, n.at' k, r.fz x⟩
  | .cell _, ⟨v, ⟨o, e, hd⟩, r⟩ => ⟨v, ⟨o, k _ e, hd⟩, fun u hu => let ⟨y, a, b⟩ := r u hu; ⟨y, a, b.fz x⟩⟩
  | .attrs _, ⟨l, n, e, r⟩ => ⟨l, n, k _ e, r.fz x⟩
  | .obj _, ⟨e, f⟩ => ⟨k _ e, f⟩
  | .fn _, ⟨o, fd, e, c, d, r1, r2, r3, r4, r5, r6, r7, r8, r9, r10, r11⟩ => ⟨o, fd, k _ e, c, d, r1, r2, r3, r4, r5, r6, r7, r8, r9, r10.fz x, r11⟩
  | .fobj _, ⟨fd, e⟩ => ⟨fd, k _ e⟩
  | .tab _, ⟨ps, e, t, r⟩ => ⟨ps, k _ e, t, fun p c hc => (r p c hc).fz x⟩
  | .dict _, ⟨l, n, e, r⟩ => ⟨l, n, k _ e, r.fz x⟩

noncomputable abbrev keys (H : AH) : List Addr := H.map (·.1)

structure Rel (C : Cfg) (H : AH) (s : Shared) : Prop where
  keep : ∀ b o, C.B.get? b = some o → s.heap.get? b = some o
  gens : s.gens = #[]
  os : s.os = C.os
  nd : (keys H).Nodup
  fresh : ∀ p ∈ H, C.B.get? p.1 = none
  objs : ∀ p ∈ H, ORel C.X s.heap p.1 p.2
  xl : ∀ a ∈ C.X, a ∉ keys H ∧ ∃ o, s.heap.get? a = some o

/-- what a tree leaves alone: all that is not tracked -/
noncomputable def Kept (H : AH) (s : Shared) (H' : AH) (s' : Shared) : Prop := ∀ b o, b ∉ keys H → s.heap.get? b = some o → s'.heap.get? b = some o ∧ b ∉ keys H'

theorem Kept.refl (H : AH) (s : Shared) : Kept H s H s := fun _ _ n e => ⟨e, n⟩
theorem Kept.trans {H H' H'' : AH} {s s' s'' : Shared} (x : Kept H s H' s') (y : Kept H' s' H'' s'') : Kept H s H'' s'' := fun b o n e =>
  let ⟨e', n'⟩ := x b o n e; y b o n' e'
theorem Rel.notin {C : Cfg} {H : AH} {s : Shared} (R : Rel C H s) {a : Addr} {o : Obj} (e : s.heap.get? a = some o) (f : Frozen C.X a o) : a ∉ keys H := fun h => by
  obtain ⟨p, hp, rfl⟩ := List.mem_map.mp h
  obtain ⟨o', e', n⟩ := (R.objs p hp).live
  rw [e] at e'; cases e'; exact n f
theorem Kept.fz {C : Cfg} {H H' : AH} {s s' : Shared} (R : Rel C H s) (k : Kept H s H' s') : Fz C.X s.heap s'.heap := fun a o e f => (k a o (R.notin e f) e).1
theorem Rel.lt {C : Cfg} {H : AH} {s : Shared} (R : Rel C H s) {a : Addr} (h : a ∈ keys H) : a < s.heap.objs.size := by
  obtain ⟨p, hp, rfl⟩ := List.mem_map.mp h
  obtain ⟨o', e', _⟩ := (R.objs p hp).live
  exact Heap.lt_size e'
theorem Rel.newAddr {C : Cfg} {H : AH} {s : Shared} (R : Rel C H s) : s.heap.objs.size ∉ keys H := fun h => Nat.lt_irrefl _ (R.lt h)
theorem Rel.baseNew {C : Cfg} {H : AH} {s : Shared} (R : Rel C H s) {a : Addr} (h : s.heap.objs.size ≤ a) : C.B.get? a = none := by
  cases e : C.B.get? a with
  | none => rfl
  | some o => exact absurd (Heap.lt_size (R.keep a o e)) (Nat.not_lt.mpr h)

theorem fz_of_ext {X : List Addr} {h h' : Heap} (k : ∀ b o, h.get? b = some o → h'.get? b = some o) : Fz X h h' := fun a o e _ => k a o e

/-- the heap only grew -/
theorem Rel.ext {C : Cfg} {H : AH} {s : Shared} (R : Rel C H s) {h' : Heap} {t : Tok} (k : ∀ b o, s.heap.get? b = some o → h'.get? b = some o) : Rel C H { s with heap := h', toks := t } where
  keep := fun b o e => k b o (R.keep b o e)
  gens := R.gens
  os := R.os
  nd := R.nd
  fresh := R.fresh
  objs := fun p hp => (R.objs p hp).move (fz_of_ext k) fun o e => k _ o e
  xl := fun a ha => let ⟨n, o, e⟩ := R.xl a ha; ⟨n, o, k _ _ e⟩
theorem kept_of_ext {H : AH} {s : Shared} {h' : Heap} {t : Tok} (k : ∀ b o, s.heap.get? b = some o → h'.get? b = some o) : Kept H s H { s with heap := h', toks := t } :=
  fun b o n e => ⟨k b o e, n⟩
theorem Rel.toks {C : Cfg} {H : AH} {s : Shared} (R : Rel C H s) (t : Tok) : Rel C H { s with toks := t } := R.ext fun _ _ e => e
theorem kept_toks {H : AH} {s : Shared} {t : Tok} : Kept H s H { s with toks := t } := fun b o n e => ⟨e, n⟩

/-- a new tracked object -/
theorem Rel.add {C : Cfg} {H : AH} {s : Shared} (R : Rel C H s) {h' : Heap} {t : Tok} {a : Addr} {x : AO} (k : ∀ b o, s.heap.get? b = some o → h'.get? b = some o) (ha : s.heap.objs.size ≤ a) (hx : ORel C.X h' a x) :
    Rel C ((a, x) :: H) { s with heap := h', toks := t } where
  keep := fun b o e => k b o (R.keep b o e)
  gens := R.gens
  os := R.os
  nd := List.nodup_cons.mpr ⟨fun h => absurd (R.lt h) (Nat.not_lt.mpr ha), R.nd⟩
  fresh := fun p hp => by
    rcases List.mem_cons.mp hp with rfl | hp
    · exact R.baseNew ha
    · exact R.fresh p hp
  objs := fun p hp => by
    rcases List.mem_cons.mp hp with rfl | hp
    · exact hx
    · exact (R.objs p hp).move (fz_of_ext k) fun o e => k _ o e
  xl := fun b hb => by
    obtain ⟨n, o, e⟩ := R.xl b hb
    refine ⟨fun h => ?_, o, k _ _ e⟩
    rcases List.mem_cons.mp h with rfl | h
    · exact absurd (Heap.lt_size e) (Nat.not_lt.mpr ha)
    · exact n h
theorem kept_add {H : AH} {s : Shared} {h' : Heap} {t : Tok} {a : Addr} {x : AO} (k : ∀ b o, s.heap.get? b = some o → h'.get? b = some o) (ha : s.heap.objs.size ≤ a) :
    Kept H s ((a, x) :: H) { s with heap := h', toks := t } := fun b o n e => ⟨k b o e, fun h => by
  rcases List.mem_cons.mp h with rfl | h
  · exact absurd (Heap.lt_size e) (Nat.not_lt.mpr ha)
  · exact n h⟩

inductive Upd (a : Addr) (x y : AO) : AH → AH → Prop
  | head {r} : Upd a x y ((a, x) :: r) ((a, y) :: r)
  | tail {p r r'} : Upd a x y r r' → Upd a x y (p :: r) (p :: r')
theorem Upd.mem {a : Addr} {x y : AO} {H H' : AH} (u : Upd a x y H H') : (a, x) ∈ H := by
  induction u with
  | head => exact .head _
  | tail _ ih => exact .tail _ ih
theorem Upd.keys {a : Addr} {x y : AO} {H H' : AH} (u : Upd a x y H H') : Mine.keys H' = Mine.keys H := by
  induction u with
  | head => rfl
  | tail _ ih => simp only [Mine.keys, List.map_cons] at ih ⊢; rw [ih]
theorem Upd.mem' {a : Addr} {x y : AO} {H H' : AH} (u : Upd a x y H H') : ∀ p ∈ H', p = (a, y) ∨ p ∈ H := by
  induction u with
  | head => intro p hp; rcases List.mem_cons.mp hp with rfl | hp; exact .inl rfl; exact .inr (.tail _ hp)
  | tail _ ih => intro p hp; rcases List.mem_cons.mp hp with rfl | hp; exact .inr (.head _); exact (ih p hp).imp id (.tail _)
theorem Upd.of_key {a : Addr} {x y : AO} {H H' : AH} (u : Upd a x y H H') (nd : (Mine.keys H).Nodup) : ∀ p ∈ H', p.1 = a → p = (a, y) := by
  induction u with
  | head =>
    intro p hp e
    rcases List.mem_cons.mp hp with rfl | hp
    · rfl
    · exact absurd (e ▸ List.mem_map_of_mem (f := Prod.fst) hp : a ∈ List.map Prod.fst _) (List.nodup_cons.mp nd).1
  | tail u ih =>
    intro p hp e
    obtain ⟨h1, h2⟩ := List.nodup_cons.mp nd
    rcases List.mem_cons.mp hp with rfl | hp
    · exact absurd (show p.1 ∈ List.map Prod.fst _ from e ▸ List.mem_map_of_mem (f := Prod.fst) u.mem) h1
    · exact ih h2 p hp e
/-- one tracked object changed; others may have been made -/
theorem Rel.upd {C : Cfg} {H H' : AH} {s : Shared} (R : Rel C H s) {h' : Heap} {t : Tok} {a : Addr} {x y : AO} (u : Upd a x y H H') (k : ∀ b o, b ≠ a → s.heap.get? b = some o → h'.get? b = some o) (hy : ORel C.X h' a y) :
    Rel C H' { s with heap := h', toks := t } ∧ Kept H s H' { s with heap := h', toks := t } := by
  have ha : a ∈ keys H := List.mem_map_of_mem u.mem
  have hf : Fz C.X s.heap h' := fun b o e f => k b o (fun q => R.notin e f (q ▸ ha)) e
  refine ⟨⟨fun b o e => k b o (fun q => ?_) (R.keep b o e), R.gens, R.os, by rw [u.keys]; exact R.nd, fun p hp => ?_, fun p hp => ?_, fun b hb => ?_⟩, fun b o n e => ⟨k b o (fun q => n (q ▸ ha)) e, by rw [u.keys]; exact n⟩⟩
  · have := R.fresh _ u.mem
    rw [q] at e; rw [this] at e; cases e
  · rcases u.mem' p hp with rfl | hp
    · exact (R.fresh _ u.mem : C.B.get? a = none)
    · exact R.fresh p hp
  · by_cases q : p.1 = a
    · rw [u.of_key R.nd p hp q]; exact hy
    · rcases u.mem' p hp with rfl | hp'
      · exact absurd rfl q
      · exact (R.objs p hp').move hf fun o e => k _ o q e
  · obtain ⟨n, o, e⟩ := R.xl b hb
    exact ⟨by rw [u.keys]; exact n, o, k b o (fun q => n (q ▸ ha)) e⟩
/-- fewer things known -/
inductive Pick (p : Addr × AO) : AH → AH → Prop
  | head {r} : Pick p (p :: r) r
  | tail {q r r'} : Pick p r r' → Pick p (q :: r) (q :: r')
inductive Sub : AH → AH → Prop
  | refl (H : AH) : Sub H H
  | drop {q A B} : Sub A B → Sub A (q :: B)
  | pick {p A B B'} : Pick p B B' → Sub A B' → Sub (p :: A) B
theorem Pick.perm {p : Addr × AO} {H H' : AH} (x : Pick p H H') : H.Perm (p :: H') := by
  induction x with
  | head => exact .refl _
  | tail _ ih => exact (ih.cons _).trans (List.Perm.swap ..)
theorem Sub.perm {H H' : AH} (x : Sub H' H) : ∃ R, H.Perm (H' ++ R) := by
  induction x with
  | refl H => exact ⟨[], by simp⟩
  | drop _ ih =>
    obtain ⟨R, h⟩ := ih
    exact ⟨_ :: R, (h.cons _).trans List.perm_middle.symm⟩
  | pick p _ ih =>
    obtain ⟨R, h⟩ := ih
    exact ⟨R, p.perm.trans (h.cons _)⟩
theorem Sub.mem {H H' : AH} (x : Sub H' H) : ∀ p ∈ H', p ∈ H := fun p hp => by
  obtain ⟨R, h⟩ := x.perm
  exact h.mem_iff.mpr (List.mem_append_left _ hp)
theorem Sub.kmem {H H' : AH} (x : Sub H' H) {a : Addr} (h : a ∈ keys H') : a ∈ keys H := by
  obtain ⟨p, hp, rfl⟩ := List.mem_map.mp h
  exact List.mem_map_of_mem (x.mem p hp)
theorem Sub.nd {H H' : AH} (x : Sub H' H) (nd : (keys H).Nodup) : (keys H').Nodup := by
  obtain ⟨R, h⟩ := x.perm
  have h2 := (h.map Prod.fst).nodup_iff.mp nd
  rw [List.map_append] at h2
  exact (List.nodup_append.mp h2).1
theorem Rel.sub {C : Cfg} {H H' : AH} {s : Shared} (R : Rel C H s) (x : Sub H' H) : Rel C H' s where
  keep := R.keep
  gens := R.gens
  os := R.os
  nd := x.nd R.nd
  fresh := fun p hp => R.fresh p (x.mem p hp)
  objs := fun p hp => R.objs p (x.mem p hp)
  xl := fun a ha => let ⟨n, e⟩ := R.xl a ha; ⟨fun h => n (x.kmem h), e⟩
theorem Kept.sub {H H' H'' : AH} {s s' : Shared} (k : Kept H s H' s') (x : Sub H'' H') : Kept H s H'' s' := fun b o n e =>
  let ⟨a, b'⟩ := k b o n e; ⟨a, fun h => b' (x.kmem h)⟩

/-- the tree ends, never raises, and what it leaves is told abstractly -/
noncomputable def WP (C : Cfg) (A : Around) {α β : Type} (T : Heap → β → α → Prop) (t : Sem α) (Q : β → AH → Prop) (H : AH) : Prop :=
  ∀ s, Rel C H s → wpAny (model C.prog C.w) A t (fun v s' => ∃ x H', Q x H' ∧ T s'.heap x v ∧ Rel C H' s' ∧ Kept H s H' s') (fun _ _ => False) s

inductive Fl where
  | next | brk | cont | ret (v : V)
noncomputable def FRel (X : List Addr) (h : Heap) : Fl → Flow → Prop
  | .next, f => f = .next
  | .brk, f => f = .brk
  | .cont, f => f = .cont
  | .ret v, f => ∃ w, f = .ret w ∧ VRel X h v w
noncomputable def BRel (_ : Heap) (a b : Bool) : Prop := b = a
noncomputable def URel (_ : Heap) (_ _ : Unit) : Prop := True

theorem Post.el {C : Cfg} {α β : Type} {T : Heap → β → α → Prop} {Q : β → AH → Prop} {H : AH} {s s' : Shared} {v : α} {G : Prop} (p : ∃ x H', Q x H' ∧ T s'.heap x v ∧ Rel C H' s' ∧ Kept H s H' s') (f : ∀ x H', Q x H' → T s'.heap x v → Rel C H' s' → Kept H s H' s' → G) : G :=
  let ⟨x, H', q, r, R, k⟩ := p; f x H' q r R k
section
variable {C : Cfg} {A : Around} {α β : Type} {T : Heap → β → α → Prop} {t : Sem α} {Q Q' : β → AH → Prop} {H H' : AH}
theorem WP.mono (h : WP C A T t Q H) (k : ∀ x H', Q x H' → Q' x H') : WP C A T t Q' H := fun s R =>
  wpAny_mono (h s R) (fun _ _ ⟨x, H', q, r⟩ => ⟨x, H', k _ _ q, r⟩) fun _ _ e => e
theorem WP.sub (x : Sub H' H) (h : WP C A T t Q H') : WP C A T t Q H := fun s R =>
  wpAny_mono (h s (R.sub x)) (fun _ _ ⟨u, H₁, q, r, R', k⟩ => ⟨u, H₁, q, r, R', fun b o n e => k b o (fun h => n (x.kmem h)) e⟩) fun _ _ e => e
end
end
set_option genInjectivity false
noncomputable section
section
variable {C : Cfg} {A : Around} {α β : Type} {T : Heap → β → α → Prop} {s : Shared} {x : β} {v : α} {Q : β → AH → Prop} {H : AH}
theorem post_ext {h' : Heap} {tk : Tok} (R : Rel C H s) (k : ∀ b o, s.heap.get? b = some o → h'.get? b = some o) (r : T h' x v) (q : Q x H) :
    ∃ x H', Q x H' ∧ T h' x v ∧ Rel C H' { s with heap := h', toks := tk } ∧ Kept H s H' { s with heap := h', toks := tk } := ⟨x, H, q, r, R.ext k, kept_of_ext k⟩
theorem post_tk {tk : Tok} (R : Rel C H s) (r : T s.heap x v) (q : Q x H) :
    ∃ x H', Q x H' ∧ T s.heap x v ∧ Rel C H' { s with toks := tk } ∧ Kept H s H' { s with toks := tk } := ⟨x, H, q, r, R.toks tk, kept_toks⟩
theorem post_id (R : Rel C H s) (r : T s.heap x v) (q : Q x H) : ∃ x H', Q x H' ∧ T s.heap x v ∧ Rel C H' s ∧ Kept H s H' s := ⟨x, H, q, r, R, Kept.refl _ _⟩
theorem post_then {s₁ : Shared} {H₁ : AH} {Q' : β → AH → Prop} (k : Kept H s H₁ s₁) {s₂ : Shared} {v : α}
    (h : ∃ x H', Q' x H' ∧ T s₂.heap x v ∧ Rel C H' s₂ ∧ Kept H₁ s₁ H' s₂) : ∃ x H', Q' x H' ∧ T s₂.heap x v ∧ Rel C H' s₂ ∧ Kept H s H' s₂ :=
  let ⟨x, H', a, b, c, d⟩ := h; ⟨x, H', a, b, c, k.trans d⟩
end

/-- the tree's end, from H at s -/
noncomputable abbrev Post (C : Cfg) {α β : Type} (T : Heap → β → α → Prop) (Q : β → AH → Prop) (H : AH) (s : Shared) : α → Shared → Prop :=
  fun v s' => ∃ x H', Q x H' ∧ T s'.heap x v ∧ Rel C H' s' ∧ Kept H s H' s'
noncomputable abbrev NoE : Value → Shared → Prop := fun _ _ => False


/-- one operation on values -/
noncomputable def Op1 (C : Cfg) (A : Around) {α β : Type} (T : Heap → β → α → Prop) (f : Value → Sem α) (x : V) (Q : β → AH → Prop) (H : AH) : Prop :=
  ∀ v s, VRel C.X s.heap x v → Rel C H s → wpAny (model C.prog C.w) A (f v) (Post C T Q H s) NoE s
noncomputable def Op2 (C : Cfg) (A : Around) {α β : Type} (T : Heap → β → α → Prop) (f : Value → Value → Sem α) (x y : V) (Q : β → AH → Prop) (H : AH) : Prop :=
  ∀ v w s, VRel C.X s.heap x v → VRel C.X s.heap y w → Rel C H s → wpAny (model C.prog C.w) A (f v w) (Post C T Q H s) NoE s

section
variable {C : Cfg} {A : Around} {env : Env} {H : AH} {Q : V → AH → Prop}


theorem wp_BinOp {l r : Expr} {op : Operator} {pos : Pos} (h : WP C A (VRel C.X) (eval l env) (fun x H₁ => WP C A (VRel C.X) (eval r env) (fun y H₂ => Op2 C A (VRel C.X) (binaryOp op) x y Q H₂) H₁) H) :
    WP C A (VRel C.X) (eval (.BinOp l op r pos) env) Q H := fun s R =>
  wpAny_BinOp (wpAny_mono (h s R) (fun v s₁ p2 => Post.el p2 fun x H₁ q rv R₁ k => wpAny_mono (q s₁ R₁) (fun w s₂ p3 => Post.el p3 fun y H₂ q₂ rw R₂ k₂ => 
    wpAny_mono (q₂ v w s₂ (rv.fz (k₂.fz R₁)) rw R₂) (fun _ _ p => post_then k (post_then k₂ p)) fun _ _ e => e) fun _ _ e => e) fun _ _ e => e)
theorem wp_Compare {l r : Expr} {op : CmpOp} {pos : Pos} (h : WP C A (VRel C.X) (eval l env) (fun x H₁ => WP C A (VRel C.X) (eval r env) (fun y H₂ => Op2 C A (VRel C.X) (compareOp op) x y Q H₂) H₁) H)
    (hm : behindInMarks op r = false := by with_unfolding_all rfl) :
    WP C A (VRel C.X) (eval (.Compare l [op] [r] pos) env) Q H := fun s R =>
  wpAny_Compare1 (hm := hm) (wpAny_mono (h s R) (fun v s₁ p4 => Post.el p4 fun x H₁ q rv R₁ k => wpAny_mono (q s₁ R₁) (fun w s₂ p5 => Post.el p5 fun y H₂ q₂ rw R₂ k₂ => 
    wpAny_mono (q₂ v w s₂ (rv.fz (k₂.fz R₁)) rw R₂) (fun _ _ p => post_then k (post_then k₂ p)) fun _ _ e => e) fun _ _ e => e) fun _ _ e => e)
theorem wp_UnaryOp {l : Expr} {op : UnaryOp} {pos : Pos} (h : WP C A (VRel C.X) (eval l env) (fun x H₁ => Op1 C A (VRel C.X) (unaryOp op) x Q H₁) H) :
    WP C A (VRel C.X) (eval (.UnaryOp op l pos) env) Q H := fun s R =>
  wpAny_UnaryOp (wpAny_mono (h s R) (fun v s₁ p6 => Post.el p6 fun _ _ q rv R₁ k => wpAny_mono (q v s₁ rv R₁) (fun _ _ p => post_then k p) fun _ _ e => e) fun _ _ e => e)

/-- the test of an if: a Bool -/
noncomputable abbrev WPB (C : Cfg) (A : Around) (env : Env) (e : Expr) (Q : Bool → AH → Prop) (H : AH) : Prop := WP C A BRel (isTrue e env (eval e env)) Q H

theorem wp_IfExp {c a b : Expr} {pos : Pos} (h : WPB C A env c (fun t H₁ => (t = true → WP C A (VRel C.X) (eval a env) Q H₁) ∧ (t = false → WP C A (VRel C.X) (eval b env) Q H₁)) H) :
    WP C A (VRel C.X) (eval (.IfExp c a b pos) env) Q H := fun s R =>
  wpAny_IfExp (wpAny_mono (h s R) (fun t s₁ p7 => Post.el p7 fun t' _ q rt R₁ k => by
    cases rt
    cases t
    · exact wpAny_mono (q.2 rfl s₁ R₁) (fun _ _ p => post_then k p) fun _ _ e => e
    · exact wpAny_mono (q.1 rfl s₁ R₁) (fun _ _ p => post_then k p) fun _ _ e => e) fun _ _ e => e)

variable {QB : Bool → AH → Prop} {QF : Fl → AH → Prop}
theorem wpb_Compare {l r : Expr} {op : CmpOp} {pos : Pos} (h : WP C A (VRel C.X) (eval l env) (fun x H₁ => WP C A (VRel C.X) (eval r env) (fun y H₂ => Op2 C A (VRel C.X) (compareOp op) x y (fun z H₃ => Op1 C A BRel truthy z QB H₃) H₂) H₁) H)
    (hm : behindInMarks op r = false := by with_unfolding_all rfl) :
    WPB C A env (.Compare l [op] [r] pos) QB H := fun s R =>
  wpAny_isTrue_Compare1 (hm := hm) (wpAny_mono (h s R) (fun v s₁ p8 => Post.el p8 fun x H₁ q rv R₁ k => wpAny_mono (q s₁ R₁) (fun w s₂ p9 => Post.el p9 fun y H₂ q₂ rw R₂ k₂ => 
    wpAny_mono (q₂ v w s₂ (rv.fz (k₂.fz R₁)) rw R₂) (fun c s₃ p10 => Post.el p10 fun z H₃ q₃ rz R₃ k₃ => wpAny_mono (q₃ c s₃ rz R₃) (fun _ _ p => post_then k (post_then k₂ (post_then k₃ p))) fun _ _ e => e) fun _ _ e => e) fun _ _ e => e) fun _ _ e => e)
theorem wpb_value {e : Expr} (h : WP C A (VRel C.X) (eval e env) (fun x H₁ => Op1 C A BRel truthy x QB H₁) H)
    (he : ∀ whole, isTrue e env whole = (do let v ← whole; standAt e.pos; holding [v] (truthy v)) := by intro _; with_unfolding_all rfl) : WPB C A env e QB H := fun s R =>
  wpAny_isTrue_value (wpAny_mono (h s R) (fun v s₁ p12 => Post.el p12 fun _ _ q rv R₁ k => wpAny_mono (q v s₁ rv R₁) (fun _ _ p => post_then k p) fun _ _ e => e) fun _ _ e => e) (he _)
theorem wpb_Name {x : Str} {pos : Pos} (h : WP C A (VRel C.X) (eval (.Name x pos) env) (fun x H₁ => Op1 C A BRel truthy x QB H₁) H) : WPB C A env (.Name x pos) QB H := wpb_value h
theorem wpb_Attribute {o : Expr} {x : Str} {pos : Pos} (h : WP C A (VRel C.X) (eval (.Attribute o x pos) env) (fun x H₁ => Op1 C A BRel truthy x QB H₁) H) : WPB C A env (.Attribute o x pos) QB H := wpb_value h
theorem wpb_BinOp {l r : Expr} {op : Operator} {pos : Pos} (h : WP C A (VRel C.X) (eval (.BinOp l op r pos) env) (fun x H₁ => Op1 C A BRel truthy x QB H₁) H) : WPB C A env (.BinOp l op r pos) QB H := wpb_value h
theorem wpb_BoolOp {op : BoolOp} {vs : List Expr} {pos : Pos} (h : WP C A BRel (allTrue op vs env) QB H) : WPB C A env (.BoolOp op vs pos) QB H := fun s R => wpAny_isTrue_BoolOp (h s R)
theorem wp_allAnd_nil (h : QB true H) : WP C A BRel (allTrue .And [] env) QB H := fun _ R => wpAny_allTrue_And_nil (post_id R rfl h)
theorem wp_allOr_nil (h : QB false H) : WP C A BRel (allTrue .Or [] env) QB H := fun _ R => wpAny_allTrue_Or_nil (post_id R rfl h)
theorem wp_allAnd_cons {x : Expr} {rest : List Expr} (h : WPB C A env x (fun t H₁ => (t = true → WP C A BRel (allTrue .And rest env) QB H₁) ∧ (t = false → QB false H₁)) H) : WP C A BRel (allTrue .And (x :: rest) env) QB H := fun s R =>
  wpAny_allTrue_And_cons (wpAny_mono (h s R) (fun t s₁ p13 => Post.el p13 fun t' H₁ q rt R₁ k => by
    cases rt
    cases t
    · exact ⟨_, H₁, q.2 rfl, rfl, R₁, k⟩
    · exact wpAny_mono (q.1 rfl s₁ R₁) (fun _ _ p => post_then k p) fun _ _ e => e) fun _ _ e => e)
theorem wp_allOr_cons {x : Expr} {rest : List Expr} (h : WPB C A env x (fun t H₁ => (t = true → QB true H₁) ∧ (t = false → WP C A BRel (allTrue .Or rest env) QB H₁)) H) : WP C A BRel (allTrue .Or (x :: rest) env) QB H := fun s R =>
  wpAny_allTrue_Or_cons (wpAny_mono (h s R) (fun t s₁ p14 => Post.el p14 fun t' H₁ q rt R₁ k => by
    cases rt
    cases t
    · exact wpAny_mono (q.2 rfl s₁ R₁) (fun _ _ p => post_then k p) fun _ _ e => e
    · exact ⟨_, H₁, q.1 rfl, rfl, R₁, k⟩) fun _ _ e => e)

-- statements
noncomputable abbrev WPS (C : Cfg) (A : Around) (env : Env) (b : List Stmt) (Q : Fl → AH → Prop) (H : AH) : Prop := WP C A (FRel C.X) (execs b env) Q H
noncomputable abbrev WP1 (C : Cfg) (A : Around) (env : Env) (b : Stmt) (Q : Fl → AH → Prop) (H : AH) : Prop := WP C A (FRel C.X) (exec b env) Q H

theorem wps_nil (h : QF .next H) : WPS C A env [] QF H := fun _ R => wpAny_execs_nil (post_id (x := Fl.next) R (by rfl) h)
/-- what stands behind a statement's end -/
noncomputable def Behind (C : Cfg) (A : Around) (env : Env) (rest : List Stmt) (Q : Fl → AH → Prop) : Fl → AH → Prop
  | .next, H => WPS C A env rest Q H
  | f, H => Q f H
theorem wps_cons {st : Stmt} {rest : List Stmt} (h : WP1 C A env st (Behind C A env rest QF) H) : WPS C A env (st :: rest) QF H := fun s R =>
  wpAny_execs_cons (wpAny_mono (h s R) (fun f s₁ p15 => Post.el p15 fun f' H₁ q rf R₁ k => by
    cases f' with
    | next => cases rf; exact wpAny_mono (q s₁ R₁) (fun _ _ p => post_then k p) fun _ _ e => e
    | brk => cases rf; exact ⟨.brk, H₁, q, rfl, R₁, k⟩
    | cont => cases rf; exact ⟨.cont, H₁, q, rfl, R₁, k⟩
    | ret v => obtain ⟨w, rfl, rv⟩ := rf; exact ⟨.ret v, H₁, q, ⟨w, rfl, rv⟩, R₁, k⟩) fun _ _ e => e)
theorem wps_next {rest : List Stmt} (h : WPS C A env rest QF H) : Behind C A env rest QF .next H := h

theorem wp1_Return {e : Expr} {pos : Pos} (h : WP C A (VRel C.X) (eval e env) (fun x H₁ => QF (.ret x) H₁) H) : WP1 C A env (.Return (some e) pos) QF H := fun s R =>
  wpAny_Return_some (wpAny_mono (h s R) (fun v s₁ p16 => Post.el p16 fun x H₁ q rv R₁ k => ⟨.ret x, H₁, q, ⟨v, rfl, rv⟩, R₁, k⟩) fun _ _ e => e)
theorem wp1_Return_none {pos : Pos} (h : QF (.ret .none) H) : WP1 C A env (.Return none pos) QF H := fun _ R =>
  wpAny_Return_none ⟨.ret .none, H, h, ⟨.none, rfl, by simp only [VRel]⟩, R, Kept.refl _ _⟩
theorem wp1_Break {pos : Pos} (h : QF .brk H) : WP1 C A env (.Break pos) QF H := fun _ R => wpAny_Break (post_id (x := Fl.brk) R (by rfl) h)
theorem wp1_Continue {pos : Pos} (h : QF .cont H) : WP1 C A env (.Continue pos) QF H := fun _ R => wpAny_Continue (post_id (x := Fl.cont) R (by rfl) h)
theorem wp1_If {c : Expr} {a b : List Stmt} {pos : Pos} (h : WPB C A env c (fun t H₁ => (t = true → WPS C A env a QF H₁) ∧ (t = false → WPS C A env b QF H₁)) H) :
    WP1 C A env (.If c a b pos) QF H := fun s R =>
  wpAny_If (wpAny_mono (h s R) (fun t s₁ p17 => Post.el p17 fun t' _ q rt R₁ k => by
    cases rt
    cases t
    · exact wpAny_mono (q.2 rfl s₁ R₁) (fun _ _ p => post_then k p) fun _ _ e => e
    · exact wpAny_mono (q.1 rfl s₁ R₁) (fun _ _ p => post_then k p) fun _ _ e => e) fun _ _ e => e)
/-- small side goals, by names of their own -/
noncomputable def NoneOf (x : V) (P : Prop) : Prop := x = .none ∧ P
theorem noneOf {P : Prop} (h : P) : NoneOf .none P := ⟨rfl, h⟩
noncomputable def IntOf (x : V) (P : Int → Prop) : Prop := ∃ i, x = .int i ∧ P i
theorem intOf {i : Int} {P : Int → Prop} (h : P i) : IntOf (.int i) P := ⟨i, rfl, h⟩
noncomputable def FewOf (xs : List V) (P : Prop) : Prop := xs.length ≤ 1000 ∧ P
theorem fewOf {xs : List V} {P : Prop} (h : P) (hz : xs.length ≤ 1000 := by first | decide | simp) : FewOf xs P := ⟨hz, h⟩
theorem wp1_Expr {e : Expr} {pos : Pos} (h : WP C A (VRel C.X) (eval e env) (fun x H₁ => NoneOf x (QF .next H₁)) H) (hi : interactive env = false := by with_unfolding_all rfl) (hs : swapsWith e none pos.line env = pure false := by with_unfolding_all rfl) :
    WP1 C A env (.Expr e pos) QF H := fun s R =>
  wpAny_Expr (hi := hi) (hs := hs) (wpAny_mono (h s R) (fun v s₁ p18 => Post.el p18 fun x H₁ p19 rv R₁ k => p19.elim fun hx q => by subst hx; simp only [VRel] at rv; subst rv; exact ⟨.next, H₁, q, rfl, R₁, k⟩) fun _ _ e => e)

-- values of ints
theorem op_add_int {a b : Int} (q : Q (.int (a + b)) H) : Op2 C A (VRel C.X) (binaryOp .Add) (.int a) (.int b) Q H := fun v w s hv hw R => by
  simp only [VRel] at hv hw; obtain ⟨t, rfl⟩ := hv; obtain ⟨u, rfl⟩ := hw
  exact PyProof.Rows.add_int (post_tk (s := s) (x := V.int _) R ⟨_, rfl⟩ q)
end
end
noncomputable section
/-- what the head gives -/
structure Cfg.Ok (C : Cfg) (gl : List (Str × V)) : Prop where
  kin : C.K.In C.B
  g : C.B.Ns mainGlobals C.mg
  b : C.B.Ns builtinsNs C.mb
  nolimit : C.B.NoLimit
  gl : ∀ p ∈ gl, ∃ v, VRel C.X C.B p.2 v ∧ (C.mg p.1 = some v ∨ (C.mg p.1 = none ∧ C.mb p.1 = some v))
  bmain : ∃ bm ob, C.mg "__builtins__" = some (.ref bm) ∧ bm ≠ builtinsNs ∧ C.B.get? bm = some ob ∧ ob.cls = .type "module" ∧ ob.dict = some builtinsNs ∧ ob.data = .plain

theorem fz_of_keep {X : List Addr} {h h' : Heap} (k : ∀ b o, h.get? b = some o → h'.get? b = some o) : Fz X h h' := fun a o e _ => k a o e

/-- a function's own names, by kind -/
structure FEnv (env : Env) (L : Addr) (ln : List Str) (cn : List (Str × Addr)) (gn : List Str) : Prop where
  kind : env.scope.kind = .function
  loc : env.locals = L
  glob : env.globals = mainGlobals
  blt : env.builtins = builtinsNs
  hl : ∀ x ∈ ln, env.kindOf x = some .local ∧ (x == ("__debug__" : Str)) = false
  hc : ∀ p ∈ cn, (env.kindOf p.1 = some .cell ∨ env.kindOf p.1 = some .free) ∧ env.cells.lookup p.1 = some p.2 ∧ (p.1 == ("__debug__" : Str)) = false ∧ (p.1 == ("__classdict__" : Str)) = false
  hg : ∀ x ∈ gn, env.kindOf x = some .globalImplicit ∧ (x == ("__debug__" : Str)) = false

section
variable {C : Cfg} {gl : List (Str × V)} {A : Around} {env : Env} {L : Addr} {ln : List Str} {cn : List (Str × Addr)} {gn : List Str} {vals vals' : List (Option V)} {x : Str} {v : V} {pos : Pos} {c : Addr} {H H' : AH} {Q : V → AH → Prop}

theorem wp_local (FE : FEnv env L ln cn gn) {H : AH} {Q : V → AH → Prop} (hL : (L, AO.ns ln vals) ∈ H) (ha : At ln vals x v) (q : Q v H) : WP C A (VRel C.X) (eval (.Name x pos) env) Q H := fun s R => by
  obtain ⟨nd, m, hn, hr⟩ := R.objs _ hL
  obtain ⟨w, hw, rw⟩ := ha.get hr
  obtain ⟨h1, h2⟩ := FE.hl x ha.mem
  refine wpAny_Name (wpAny_loadName_local FE.kind h1 (FE.loc ▸ hn) hw (post_id R rw q)) h2
theorem load_local (FE : FEnv env L ln cn gn) {H : AH} {Q : V → AH → Prop} (hL : (L, AO.ns ln vals) ∈ H) (ha : At ln vals x v) (q : Q v H) : WP C A (VRel C.X) (loadName env x) Q H := fun s R => by
  obtain ⟨nd, m, hn, hr⟩ := R.objs _ hL
  obtain ⟨w, hw, rw⟩ := ha.get hr
  obtain ⟨h1, h2⟩ := FE.hl x ha.mem
  exact wpAny_loadName_local FE.kind h1 (FE.loc ▸ hn) hw (post_id R rw q)
theorem load_cell (FE : FEnv env L ln cn gn) {H : AH} {Q : V → AH → Prop} (hx : (x, c) ∈ cn) (hc : (c, AO.cell (some v)) ∈ H) (q : Q v H) : WP C A (VRel C.X) (loadName env x) Q H := fun s R => by
  obtain ⟨y, hy, k⟩ := R.objs _ hc
  obtain ⟨w, rfl, rw⟩ := k v rfl
  obtain ⟨h1, h2, h3, h4⟩ := FE.hc _ hx
  rcases h1 with h1 | h1
  · exact wpAny_loadName_cell FE.kind h1 h2 hy (post_id R rw q)
  · exact wpAny_loadName_free FE.kind h1 h2 hy (post_id R rw q) h4
theorem wp_cell (FE : FEnv env L ln cn gn) {H : AH} {Q : V → AH → Prop} (hx : (x, c) ∈ cn) (hc : (c, AO.cell (some v)) ∈ H) (q : Q v H) : WP C A (VRel C.X) (eval (.Name x pos) env) Q H := fun s R =>
  wpAny_Name (load_cell FE hx hc q s R) (FE.hc _ hx).2.2.1
theorem wp_glob (G : C.Ok gl) (FE : FEnv env L ln cn gn) {H : AH} {Q : V → AH → Prop} (hg : (x, v) ∈ gl) (hx : x ∈ gn) (q : Q v H) : WP C A (VRel C.X) (eval (.Name x pos) env) Q H := fun s R => by
  obtain ⟨w, rw, hw⟩ := G.gl _ hg
  obtain ⟨h1, h2⟩ := FE.hg x hx
  have rw' := rw.fz (fz_of_keep R.keep)
  refine Name_function_global FE.kind h1 ?_ h2
  have hG : s.heap.Ns env.globals C.mg := by rw [FE.glob]; exact G.g.keeps R.keep
  have hB : s.heap.Ns env.builtins C.mb := by rw [FE.blt]; exact G.b.keeps R.keep
  rcases hw with hw | ⟨hw, hw'⟩
  · exact loadGlobal_global hG hw (post_id R rw' q)
  · exact loadGlobal_builtin hG hw hB hw' (post_id R rw' q)

variable {QU : Unit → AH → Prop} {QF : Fl → AH → Prop}
theorem store_local (FE : FEnv env L ln cn gn) {H H' : AH} {QU : Unit → AH → Prop} (hu : Upd L (.ns ln vals) (.ns ln vals') H H') (hp : Put ln vals x v vals') (q : QU () H') : Op1 C A URel (storeName env x) v QU H := fun w s rw R => by
  obtain ⟨nd, m, hn, hr⟩ := R.objs _ hu.mem
  obtain ⟨h1, h2⟩ := FE.hl x hp.mem
  have hLk : L ∈ keys H := List.mem_map_of_mem (f := Prod.fst) hu.mem
  refine wpAny_storeName_local h1 (FE.loc ▸ hn) (fun h' hn' hs' => ?_) (by rw [FE.kind]; rfl)
  rw [FE.loc] at hn' hs'
  have hf : Fz C.X s.heap h' := fun a o e f => hs'.extBut a o (fun q => R.notin e f (q ▸ hLk)) e
  obtain ⟨R', k'⟩ := R.upd hu (h' := h') (t := s.toks + 1) (fun b o n e => hs'.extBut b o n e) ⟨nd, _, hn', (hp.rel rw nd hr).fz hf⟩
  exact ⟨(), H', q, trivial, R', k'⟩
theorem store_cell (FE : FEnv env L ln cn gn) {o : Option V} {H H' : AH} {QU : Unit → AH → Prop} (hx : (x, c) ∈ cn) (hu : Upd c (.cell o) (.cell (some v)) H H') (q : QU () H') : Op1 C A URel (storeName env x) v QU H := fun w s rw R => by
  obtain ⟨y, hy, k⟩ := R.objs _ hu.mem
  obtain ⟨h1, h2, h3, h4⟩ := FE.hc _ hx
  have hck : c ∈ keys H := List.mem_map_of_mem (f := Prod.fst) hu.mem
  have fin : ∀ h' tk, h'.IsCell c (some w) → Heap.SameBut c s.heap h' → ∃ x H'', QU x H'' ∧ URel h' x () ∧ Rel C H'' { s with heap := h', toks := tk } ∧ Kept H s H'' { s with heap := h', toks := tk } := fun h' tk hc' hs' => by
    have hf : Fz C.X s.heap h' := fun a o e f => hs'.extBut a o (fun q => R.notin e f (q ▸ hck)) e
    obtain ⟨R', k'⟩ := R.upd hu (h' := h') (t := tk) (fun b o n e => hs'.extBut b o n e) ⟨some w, hc', fun z hz => by cases hz; exact ⟨w, rfl, rw.fz hf⟩⟩
    exact ⟨(), H', q, trivial, R', k'⟩
  rcases h1 with h1 | h1
  · exact wpAny_storeName_cell FE.kind h1 h2 hy fun h' hc' hs' => fin h' _ hc' hs'
  · unfold storeName
    simp only [h1, FE.kind]
    exact wpAny_bind (wpAny_cellOf h2 (wpAny_cellSet hy fun h' hc' hs' => fin h' _ hc' hs'))

/-- a store at a target -/
noncomputable abbrev WPA (C : Cfg) (A : Around) (env : Env) (t : Expr) (v : V) (Q : Unit → AH → Prop) (H : AH) : Prop := Op1 C A URel (assign t env) v Q H
theorem asg_Name (h : Op1 C A URel (storeName env x) v QU H) : WPA C A env (.Name x pos) v QU H := fun w s rw R => wpAny_assign_Name (h w s rw R)

theorem wp1_Assign_Name {value : Expr} {pos' : Pos} (h : WP C A (VRel C.X) (eval value env) (fun v H₁ => Op1 C A URel (storeName env x) v (fun _ H₂ => QF .next H₂) H₁) H)
    (hs : swapsWith value (some (.Name x pos')) pos.line env = pure false := by with_unfolding_all rfl) : WP1 C A env (.Assign [.Name x pos'] value pos) QF H := fun s R =>
  wpAny_Assign_Name (hs := hs) (wpAny_mono (h s R) (fun w s₁ p20 => Post.el p20 fun v H₁ q rw R₁ k => wpAny_mono (q w s₁ rw R₁) (fun _ _ p21 => Post.el p21 fun _ H₂ q₂ _ R₂ k₂ => ⟨.next, H₂, q₂, rfl, R₂, k.trans k₂⟩) fun _ _ e => e) fun _ _ e => e)
theorem wp1_Aug_Name {value : Expr} {pos' : Pos} {op : Operator} (h : WP C A (VRel C.X) (loadName env x) (fun u H₁ => WP C A (VRel C.X) (eval value env) (fun v H₂ => Op2 C A (VRel C.X) (inplaceOp op) u v (fun r H₃ => Op1 C A URel (storeName env x) r (fun _ H₄ => QF .next H₄) H₃) H₂) H₁) H) :
    WP1 C A env (.AugAssign (.Name x pos') op value pos) QF H := fun s R =>
  wpAny_AugAssign_Name (wpAny_mono (h s R) (fun u s₁ p22 => Post.el p22 fun u' H₁ q ru R₁ k => wpAny_mono (q s₁ R₁) (fun v s₂ p23 => Post.el p23 fun v' H₂ q₂ rv R₂ k₂ => 
    wpAny_mono (q₂ u v s₂ (ru.fz (k₂.fz R₁)) rv R₂) (fun r s₃ p24 => Post.el p24 fun r' H₃ q₃ rr R₃ k₃ => wpAny_mono (q₃ r s₃ rr R₃) (fun _ _ p25 => Post.el p25 fun _ H₄ q₄ _ R₄ k₄ => 
      ⟨.next, H₄, q₄, rfl, R₄, ((k.trans k₂).trans k₃).trans k₄⟩) fun _ _ e => e) fun _ _ e => e) fun _ _ e => e) fun _ _ e => e)

-- constants
theorem wp_int {i : Int} {k : Nat} (q : Q (.int i) H) : WP C A (VRel C.X) (eval (.Constant (.int i) k pos) env) Q H := fun s R => wpAny_Constant_int (post_tk (s := s) (x := V.int i) R ⟨_, rfl⟩ q)
theorem wp_str {i : Str} {k : Nat} (q : Q (.str i) H) : WP C A (VRel C.X) (eval (.Constant (.str i) k pos) env) Q H := fun s R => wpAny_Constant_str (post_tk (s := s) (x := V.str i) R ⟨_, rfl⟩ q)
theorem wp_bytes {i : List UInt8} {k : Nat} (q : Q (.bytes i.toArray) H) : WP C A (VRel C.X) (eval (.Constant (.bytes i) k pos) env) Q H := fun s R => Constant_bytes (post_tk (s := s) (x := V.bytes i.toArray) R ⟨_, rfl⟩ q)

-- arguments
noncomputable abbrev WPL (C : Cfg) (A : Around) (env : Env) (pos : Pos) (es : List Expr) (Q : List V → AH → Prop) (H : AH) : Prop := WP C A (VsRel C.X) (spliced (backTo pos (starEach es env))) Q H
variable {QL : List V → AH → Prop}
theorem wpl_nil (q : QL [] H) : WPL C A env pos [] QL H := fun s R => wpAny_items_nil (post_id (s := s) (x := []) R VsRel.nil q)
theorem wpl_cons {e : Expr} {es : List Expr} (h : WP C A (VRel C.X) (eval e env) (fun x H₁ => WPL C A env pos es (fun xs H₂ => QL (x :: xs) H₂) H₁) H)
    (he : starEach (e :: es) env = (false, eval e env) :: starEach es env := by with_unfolding_all rfl) : WPL C A env pos (e :: es) QL H := fun s R =>
  wpAny_items_cons (he := he) (wpAny_mono (h s R) (fun v s₁ p26 => Post.el p26 fun x H₁ q rv R₁ k => wpAny_mono (q s₁ R₁) (fun vs s₂ p27 => Post.el p27 fun xs H₂ q₂ rvs R₂ k₂ => ⟨x :: xs, H₂, q₂, .cons (rv.fz (k₂.fz R₁)) rvs, R₂, k.trans k₂⟩) fun _ _ e => e) fun _ _ e => e)

-- calls
/-- what the caller asks of a callee before the call -/
noncomputable def KeepsOk (M : Model) (A : Around) (fv : Value) (s : Shared) : Prop := ∃ k, ∀ Q : Keeper → Shared → Prop, Q k s → wpAny M A (keeperOf fv) Q NoE s
noncomputable def WPC (C : Cfg) (A : Around) (f : V) (args : List V) (Q : V → AH → Prop) (H : AH) : Prop :=
  ∀ fv avs s, VRel C.X s.heap f fv → VsRel C.X s.heap args avs → Rel C H s → KeepsOk (model C.prog C.w) A fv s ∧ wpAny (model C.prog C.w) A (call fv avs) (Post C (VRel C.X) Q H s) NoE s

theorem callWith_K {M : Model} {E : Value → Shared → Prop} {s : Shared} {fv : Value} {first : List Value} {args : List (Bool × Sem Value)} {P : Value → Shared → Prop} (hplain : args.any (·.1) = false)
    (h : wpAny M A (evalArgs fv true args []) (fun a s₁ => a.kw = [] ∧ (∃ k, ∀ Q : Keeper → Shared → Prop, Q k s₁ → wpAny M A (keeperOf fv) Q E s₁) ∧ wpAny M A (call fv (first ++ a.pos)) P E s₁) E s) :
    wpAny M A (callWith pos fv first args []) P E s := by
  unfold callWith
  refine wpAny_bind (wpAny_holding (wpAny_mono h (fun a s₁ h₁ => wpAny_bind (wpAny_standAt ?_)) fun _ _ x => x))
  obtain ⟨apos, akw⟩ := a
  obtain ⟨hkw, ⟨k, hk⟩, hc⟩ := h₁
  obtain rfl : akw = [] := hkw
  simp only [hplain, List.any_nil, Bool.or_false]
  have tail : ∀ {t : Sem Value}, wpAny M A t P E s₁ → wpAny M A (t >>= fun r => holding [r] point >>= fun _ => pure r) P E s₁ :=
    fun ht => wpAny_bind (wpAny_mono ht (fun r s₂ hr => wpAny_bind (wpAny_holding (wpAny_point (wpAny_pure hr)))) fun _ _ x => x)
  refine wpAny_bind (hk _ ?_)
  cases k with
  | frame =>
    simp only []
    split
    · exact tail hc
    · exact tail (by unfold callMarked; exact wpAny_keep hc)
  | boundFrame =>
    simp only []
    split
    · exact tail hc
    · exact tail (by unfold callMarked; exact wpAny_keep hc)
  | machine => exact tail hc
  | caller => exact tail (wpAny_operateT hc)

noncomputable def ArgsRel (X : List Addr) (h : Heap) (xs : List V) (a : Args) : Prop := a.kw = [] ∧ VsRel X h xs a.pos
/-- the arguments of a call, whatever is called -/
noncomputable def WPG (C : Cfg) (A : Around) (env : Env) (pos : Pos) (es : List Expr) (Q : List V → AH → Prop) (H : AH) : Prop :=
  (backTo pos (starEach es env)).any (·.1) = false ∧ ∀ f, WP C A (ArgsRel C.X) (evalArgs f true (backTo pos (starEach es env)) []) Q H
theorem wpg_nil (q : QL [] H) : WPG C A env pos [] QL H := ⟨rfl, fun f s R => PySem.evalArgs_none (post_id (s := s) (x := []) R ⟨rfl, VsRel.nil⟩ q)⟩
theorem wpg_cons {e : Expr} {es : List Expr} (h : WPL C A env pos (e :: es) QL H) (he : starEach (e :: es) env = (false, eval e env) :: starEach es env := by with_unfolding_all rfl)
    (hst : (backTo pos (starEach (e :: es) env)).any (·.1) = false := by with_unfolding_all rfl) : WPG C A env pos (e :: es) QL H := ⟨hst, fun f s R => by
  have h' := h s R
  rw [he] at h' ⊢
  exact evalArgs_plain (wpAny_mono h' (fun vs s₁ p28 => Post.el p28 fun xs H₁ q r R₁ k => ⟨xs, H₁, q, ⟨rfl, r⟩, R₁, k⟩) fun _ _ e => e)⟩

theorem wp_callWith {fv : Value} {f : V} {first : List V} {fs : List Value} {es : List Expr} {s : Shared} (h : WPG C A env pos es (fun xs H₁ => WPC C A f (first ++ xs) Q H₁) H)
    (rf : VRel C.X s.heap f fv) (rfs : VsRel C.X s.heap first fs) (R : Rel C H s) : wpAny (model C.prog C.w) A (callWith pos fv fs (backTo pos (starEach es env)) []) (Post C (VRel C.X) Q H s) NoE s :=
  callWith_K h.1 (wpAny_mono (h.2 fv s R) (fun a s₁ p29 => Post.el p29 fun xs H₁ q p30 R₁ k => p30.elim fun hk ra => by
    obtain ⟨h1, h2⟩ := q fv (fs ++ a.pos) s₁ (rf.fz (k.fz R)) ((rfs.fz (k.fz R)).append ra) R₁
    exact ⟨hk, h1, wpAny_mono h2 (fun _ _ p => post_then k p) fun _ _ e => e⟩) fun _ _ e => e)

theorem wp_Call_Name {x : Str} {np : Pos} {es : List Expr} (h : WP C A (VRel C.X) (eval (.Name x np) env) (fun f H₁ => WPG C A env pos es (fun xs H₂ => WPC C A f xs Q H₂) H₁) H) :
    WP C A (VRel C.X) (eval (.Call (.Name x np) es [] pos) env) Q H := fun s R =>
  wpAny_Call_ofName (wpAny_mono (h s R) (fun fv s₁ p31 => Post.el p31 fun f H₁ q rf R₁ k => wpAny_mono (wp_callWith (first := []) q rf VsRel.nil R₁) (fun _ _ p => post_then k p) fun _ _ e => e) fun _ _ e => e)

/-- what a method's name means at a value: a callee, its first arguments -/
noncomputable def MRel (X : List Addr) (h : Heap) (p : V × List V) (q : Value × List Value) : Prop := VRel X h p.1 q.1 ∧ VsRel X h p.2 q.2
noncomputable def WPM (C : Cfg) (A : Around) (x : V) (name : Str) (Q : V → List V → AH → Prop) (H : AH) : Prop := ∀ pl, Op1 C A (MRel C.X) (fun v => getMethod v name pl) x (fun p H₁ => Q p.1 p.2 H₁) H
theorem wp_Call_Attr {o : Expr} {name : Str} {apos : Pos} {es : List Expr}
    (h : WP C A (VRel C.X) (eval o env) (fun x H₁ => WPM C A x name (fun f first H₂ => WPG C A env pos es (fun xs H₃ => WPC C A f (first ++ xs) Q H₃) H₂) H₁) H)
    (hbase : attributeBase o name env (eval o env) = eval o env := by with_unfolding_all rfl)
    (hfew : ((backTo pos (starEach es env)).all (fun x => !x.1) && (backToKw pos (keywordEach [] env)).all (fun x => x.1.isSome)
      && decide (es.length + ([] : List Keyword).length + (if ([] : List Keyword).isEmpty then 0 else 1) < 30)) = true := by with_unfolding_all rfl)
    (hline : (apos.endLine == pos.line) = true := by with_unfolding_all rfl) :
    WP C A (VRel C.X) (eval (.Call (.Attribute o name apos) es [] pos) env) Q H := fun s R => by
  rw [arm_eval_Call, hbase]
  refine wpAny_bind (wpAny_mono (h s R) (fun ov s₁ p32 => Post.el p32 fun x H₁ q rx R₁ k => ?_) fun _ _ e => e)
  refine wpAny_bind (wpAny_standAt ?_)
  have hform : methodCallForm (es.length + ([] : List Keyword).length) (backTo pos (starEach es env)) (backToKw pos (keywordEach [] env)) = true := hfew
  have hpos : methodCallPos true o env apos pos = pure pos := by unfold methodCallPos; simp [hline]
  unfold methodCall
  rw [hform]
  refine wpAny_bind (wpAny_holding ?_)
  show wpAny _ A (getMethod ov name _) _ _ _
  refine wpAny_mono (q _ ov s₁ rx R₁) (fun p s₂ p33 => Post.el p33 fun y H₂ q₂ p34 R₂ k₂ => p34.elim fun r1 r2 => ?_) fun _ _ e => e
  refine wpAny_bind (wpAny_of_eq hpos ?_)
  exact wpAny_mono (wp_callWith q₂ r1 r2 R₂) (fun _ _ p => post_then k (post_then k₂ p)) fun _ _ e => e

-- displays
theorem wp_Tuple {es : List Expr} {k : Nat} (h : WPL C A env pos es (fun xs H₁ => FewOf xs (Q (.tup xs) H₁)) H) : WP C A (VRel C.X) (eval (.Tuple es k pos) env) Q H := fun s R =>
  wpAny_Tuple (wpAny_mono (h s R) (fun vs s₁ p35 => Post.el p35 fun xs H₁ p36 r R₁ k => p36.elim fun hz q => by
    have hl := r.length
    have ext : ∀ b o, s₁.heap.get? b = some o → (s₁.heap.push { cls := .type "tuple", data := .seq vs.toArray }).get? b = some o := fun b o e => Heap.get?_push_of_some _ e
    refine ⟨by rw [hl, sizeLine_eq]; lia, post_then k (post_ext (s := s₁) (h' := s₁.heap.push { cls := .type "tuple", data := .seq vs.toArray }) (tk := s₁.toks) (x := V.tup xs) R₁ ext ?_ q)⟩
    simp only [VRel]
    exact ⟨_, vs.toArray, rfl, fun hX => let ⟨_, o, e⟩ := R₁.xl _ hX; Nat.lt_irrefl _ (Heap.lt_size e), ⟨_, Heap.get?_push_size _ rfl, rfl, 0, rfl⟩, by simpa using r.fz (fz_of_ext ext)⟩) fun _ _ e => e)
/-- a new list, wherever it lies -/
theorem wp_List {es : List Expr} (h : WPL C A env pos es (fun xs H₁ => FewOf xs (∀ a, Q (.ref a) ((a, .list xs) :: H₁))) H) : WP C A (VRel C.X) (eval (.List es pos) env) Q H := fun s R =>
  wpAny_List (wpAny_mono (h s R) (fun vs s₁ p37 => Post.el p37 fun xs H₁ p38 r R₁ k => p38.elim fun hz q => by
    have hl := r.length
    have ext : ∀ b o, s₁.heap.get? b = some o → (s₁.heap.push { cls := .type "list", data := .seq vs.toArray }).get? b = some o := fun b o e => Heap.get?_push_of_some _ e
    refine ⟨by rw [hl, sizeLine_eq]; lia, ⟨.ref s₁.heap.objs.size, (s₁.heap.objs.size, .list xs) :: H₁, q _, rfl, R₁.add ext (Nat.le_refl _) ?_, k.trans (kept_add ext (Nat.le_refl _))⟩⟩
    exact ⟨vs.toArray, ⟨0, Heap.get?_push_size _ rfl⟩, by simpa using r.fz (fz_of_ext ext)⟩) fun _ _ e => e)
end
end
noncomputable section
theorem NsRel.of_get {X : List Addr} {h : Heap} {m : Str → Option Value} : ∀ {ns : List Str} {os : List (Option V)}, os.length = ns.length →
    (∀ (i : Nat) n u, ns[i]? = some n → os[i]? = some (some u) → ∃ v, m n = some v ∧ VRel X h u v) → NsRel X h m ns os
  | [], os, e, _ => List.length_eq_zero_iff.mp e
  | n :: ns, [], e, _ => by simp at e
  | n :: ns, o :: os, e, k => ⟨o, os, rfl, fun u hu => k 0 n u (by simp) (by simp [hu]), NsRel.of_get (by simpa using e) fun i n' u h1 h2 => k (i + 1) n' u (by simpa using h1) (by simpa using h2)⟩

theorem lookup_of_mem {β : Type} : ∀ {l : List (Str × β)} {x : Str} {v : β}, (l.map (·.1)).Nodup → (x, v) ∈ l → l.lookup x = some v
  | (y, w) :: r, x, v, nd, h => by
    obtain ⟨h1, h2⟩ := List.nodup_cons.mp nd
    rw [List.lookup_cons]
    rcases List.mem_cons.mp h with e | h
    · cases e; simp
    · have : (x == y) = false := by
        apply beq_eq_false_iff_ne.mpr
        intro e
        exact h1 (e ▸ (List.mem_map_of_mem (f := Prod.fst) h : x ∈ r.map Prod.fst))
      rw [this]
      exact lookup_of_mem h2 h

theorem lookup_rev {β : Type} {l : List (Str × β)} {x : Str} {v : β} (nd : (l.map (·.1)).Nodup) (h : (x, v) ∈ l) : l.reverse.lookup x = some v :=
  lookup_of_mem (by rw [List.map_reverse]; exact List.pairwise_reverse.mpr (nd.imp fun h => h.symm)) (List.mem_reverse.mpr h)

theorem lookup_snoc {β : Type} {l : List (Str × β)} {n x : Str} {v : β} : (l.reverse ++ [(n, v)]).lookup x = (l.reverse.lookup x).or (if x = n then some v else none) := by
  rw [List.lookup_append]
  congr 1
  rw [List.lookup_cons]
  cases e : x == n with
  | true => rw [if_pos (beq_iff_eq.mp e)]
  | false => rw [if_neg (beq_eq_false_iff_ne.mp e)]; rfl

theorem bindL_eq (k : Str → Option NameKind) : ∀ (binds : List (Str × Value)) (m : Str → Option Value) (x : Str), k x = some .local → bindL k binds m x = (binds.reverse.lookup x).or (m x)
  | [], m, x, _ => by simp [bindL]
  | (n, v) :: r, m, x, hx => by
    rw [bindL, bindL_eq k r _ x hx, List.reverse_cons, lookup_snoc, Option.or_assoc]
    congr 1
    by_cases hn : k n = some .local
    · rw [if_pos hn]
      by_cases e : x = n
      · simp [e]
      · simp [e]
    · rw [if_neg hn]
      have : x ≠ n := fun e => hn (e ▸ hx)
      simp [this]
theorem bindC_eq (k : Str → Option NameKind) : ∀ (binds : List (Str × Value)) (m : Str → Option Value) (x : Str), k x ≠ some .local → bindC k binds m x = (binds.reverse.lookup x).or (m x)
  | [], m, x, _ => by simp [bindC]
  | (n, v) :: r, m, x, hx => by
    rw [bindC, bindC_eq k r _ x hx, List.reverse_cons, lookup_snoc, Option.or_assoc]
    congr 1
    by_cases hn : k n = some .local
    · rw [if_pos hn]
      have : x ≠ n := fun e => hx (e ▸ hn)
      simp [this]
    · rw [if_neg hn]
      by_cases e : x = n
      · simp [e]
      · simp [e]

/-- the names of a frame at its start: the parameters first -/
inductive Init : List Str → List V → List (Option V) → Prop
  | done : Init [] [] []
  | arg {n ln x xs vals} : Init ln xs vals → Init (n :: ln) (x :: xs) (some x :: vals)
  | none {n ln vals} : Init ln [] vals → Init (n :: ln) [] (Option.none :: vals)
theorem Init.len {ln xs vals} (i : Init ln xs vals) : vals.length = ln.length := by
  induction i <;> simp [*]
theorem Init.le {ln xs vals} (i : Init ln xs vals) : xs.length ≤ ln.length := by
  induction i with
  | done => simp
  | arg _ ih => simp; lia
  | none _ ih => simp
theorem Init.at {ln xs vals} (i : Init ln xs vals) : ∀ (k : Nat) u, vals[k]? = some (some u) → xs[k]? = some u := by
  induction i with
  | done => intro k u h; simp at h
  | arg _ ih => intro k u h; cases k with
    | zero => simpa using h
    | succ k => simpa using ih k u (by simpa using h)
  | none _ ih => intro k u h; cases k with
    | zero => simp at h
    | succ k => have := ih k u (by simpa using h); simp at this

structure FnAt (h : Heap) (fa : Addr) (F : FnA) (cd : Value) : Prop where
  ex : ∃ o fd, h.get? fa = some o ∧ o.data = .func fd ∧ fd.qualname = F.qual ∧ fd.params = F.params ∧ fd.body = F.body ∧ fd.scope = F.scope ∧ fd.closure = F.closure ∧
      fd.globals = mainGlobals ∧ fd.builtins = builtinsNs ∧ fd.defaults = .none ∧ fd.kwdefaults = .none ∧ fd.code = cd ∧ h.CodeRec cd F.qual
theorem FnAt.keeps {h h' : Heap} {fa : Addr} {F : FnA} {cd : Value} (x : FnAt h fa F cd) (k : ∀ b o, h.get? b = some o → h'.get? b = some o) : FnAt h' fa F cd :=
  let ⟨o, fd, e, r1, r2, r3, r4, r5, r6, r7, r8, r9, r10, r11, r12⟩ := x.ex; ⟨o, fd, k _ _ e, r1, r2, r3, r4, r5, r6, r7, r8, r9, r10, r11, r12.keeps k⟩

noncomputable def envF (F : FnA) (L fa : Addr) (cd : Value) (cells : List (Str × Addr)) : Env :=
  { scope := F.scope, locals := L, globals := mainGlobals, cells := cells, qual := F.qual ++ ".<locals>.", func := some fa, code := cd, frame := some L, builtins := builtinsNs }

/-- how a plain call binds -/
noncomputable def Binds (F : FnA) (pn : List Str) : Prop := ∀ (fd : FuncData) (vs : List Value), fd.params = F.params → fd.defaults = .none → fd.kwdefaults = .none → vs.length = pn.length → bindArgs fd ⟨vs, []⟩ = pure (pn.zip vs)

noncomputable def Fl.val : Fl → V
  | .ret v => v
  | _ => .none

structure Room (A : Around) (n : Nat) : Prop where
  hd : A.handled = none
  depth : A.depth + n < 900
  units : A.units + 8 * n + 100 < 9900
theorem Room.deeper {A : Around} {n : Nat} (r : Room A (n + 1)) (env : Env) : Room (A.deeper env) n :=
  ⟨r.hd, by have := r.depth; simp only [Around.deeper]; lia, by have := r.units; simp only [Around.deeper]; lia⟩
theorem Room.mono {A : Around} {n m : Nat} (r : Room A n) (h : m ≤ n) : Room A m := ⟨r.hd, by have := r.depth; lia, by have := r.units; lia⟩

section
variable {C : Cfg} {gl : List (Str × V)} {A : Around} {H H' : AH} {Q : V → AH → Prop}

theorem zip_fst_sub {α β : Type} : ∀ (l : List α) (r : List β), ((l.zip r).map (·.1)).Sublist l
  | [], _ => by simp
  | _ :: _, [] => by simp
  | a :: l, b :: r => by simpa using zip_fst_sub l r
theorem zip_take_nodup {ln : List Str} (nd : ln.Nodup) (vs : List Value) (n : Nat) : (((ln.take n).zip vs).map (·.1)).Nodup := by
  exact (nd.sublist (List.take_sublist _ _)).sublist (zip_fst_sub _ _)

theorem ns_init {X : List Addr} {h : Heap} {ln : List Str} {xs : List V} {vals : List (Option V)} {vs : List Value} {m : Str → Option Value} (nd : ln.Nodup) (i : Init ln xs vals) (r : VsRel X h xs vs)
    (hm : ∀ x ∈ ln, ∀ v, ((ln.take xs.length).zip vs).reverse.lookup x = some v → m x = some v) : NsRel X h m ln vals := by
  refine NsRel.of_get i.len fun k n u h1 h2 => ?_
  obtain ⟨v, hv, rv⟩ := r.get (i.at k u h2)
  have hk : k < xs.length := by
    have := i.at k u h2
    exact (List.getElem?_eq_some_iff.mp this).1
  refine ⟨v, hm n (List.mem_of_getElem? h1) v ?_, rv⟩
  refine lookup_rev (zip_take_nodup nd _ _) ?_
  refine List.mem_iff_getElem?.mpr ⟨k, ?_⟩
  rw [List.getElem?_zip_eq_some]
  exact ⟨by rw [List.getElem?_take, if_pos hk]; exact h1, hv⟩

/-- the call of a function without cells of its own -/
theorem code_fn {fa : Addr} {F : FnA} {D : Value → Prop} {ln : List Str} {xs : List V} {vals : List (Option V)} {body : List Stmt} {n : Nat}
    (G : C.Ok gl) (hF : ∀ s, Rel C H s → ∃ cd, D cd ∧ FnAt s.heap fa F cd) (hroom : Room A (n + 1)) (hb : F.body = .stmts body) (hbind : Binds F (ln.take xs.length))
    (hln : ∀ x ∈ ln, F.scope.names.lookup x = some .local) (nd : ln.Nodup) (hcell : ∀ x ∈ F.scope.names, x.2 ≠ .cell) (i : Init ln xs vals)
    (h : ∀ L cd, D cd → WPS C (A.deeper (envF F L fa cd F.closure)) (envF F L fa cd F.closure) body (fun fl H₁ => ∃ H₂, Sub H₂ H₁ ∧ Q fl.val H₂) ((L, .ns ln vals) :: H))
    (hco : F.scope.isCoroutine = false := by with_unfolding_all rfl) (hgen : F.scope.isGenerator = false := by with_unfolding_all rfl) (hk : F.scope.kind = .function := by with_unfolding_all rfl) :
    ∀ avs s, VsRel C.X s.heap xs avs → Rel C H s → codeAny (model C.prog C.w) A (.call (.ref fa) ⟨avs, []⟩) (fun r s' => match r with | .ok (.ret v) => Post C (VRel C.X) Q H s v s' | .ok _ => False | .error e => NoE e s') s := fun avs s ra R => by
  obtain ⟨cd, hD, hFn⟩ := hF s R
  obtain ⟨o, fd, ho, hd, e1, e2, e3, e4, e5, e6, e7, e8, e9, e10, hrec⟩ := hFn.ex
  have hlen := ra.length
  · have hA : A.depth < recursionLimit := by have := hroom.depth; unfold recursionLimit; lia
    refine codeAny_call_function (body := body) hA ho hd (by rw [e4]; exact hco) (by rw [e4]; exact hgen) (by rw [e3]; exact hb) (by rw [e10, e1]; exact hrec) ?_
    have hpn : avs.length = (ln.take xs.length).length := by rw [List.length_take, Nat.min_eq_left i.le, hlen]
    rw [hbind fd avs e2 e8 e9 hpn, e4, e5, e6, e7, e1, e10]
    refine wpAny_pure (wpAny_newFunctionEnv hcell (fun x hx => hln x.1 ?_) (fun h' hns hsb => ?_) hk)
    · exact List.mem_of_mem_take (List.of_mem_zip hx).1
    · have ext : ∀ b o, s.heap.get? b = some o → h'.get? b = some o := fun b o e => hsb.extBut b o (Nat.ne_of_lt (Heap.lt_size e)) (Heap.get?_push_of_some _ e)
      refine ⟨(G.nolimit.keeps R.keep).keeps ext, ?_⟩
      show codeAny _ A (.func body (envF F s.heap.objs.size fa cd F.closure)) _ _
      have R' : Rel C ((s.heap.objs.size, .ns ln vals) :: H) { s with heap := h', toks := s.toks + ((ln.take xs.length).zip avs).length } :=
        R.add ext (Nat.le_refl _) ⟨nd, _, hns, ns_init nd i (ra.fz (fz_of_ext ext)) fun x _ v e => e⟩
      have k' : Kept H s ((s.heap.objs.size, .ns ln vals) :: H) { s with heap := h', toks := s.toks + ((ln.take xs.length).zip avs).length } := kept_add ext (Nat.le_refl _)
      refine codeAny_func (wpAny_mono (h _ _ hD _ R') (fun f s₁ ⟨fl, H₁, ⟨H₂, sub, q⟩, rf, R₁, k₁⟩ => ?_) fun _ _ e => e.elim)
      refine ⟨fl.val, H₂, q, ?_, R₁.sub sub, (k'.trans k₁).sub sub⟩
      cases fl with
      | ret v => obtain ⟨w, rfl, rw⟩ := rf; exact rw
      | next => cases rf; simp [Fl.val, VRel]
      | brk => cases rf; simp [Fl.val, VRel]
      | cont => cases rf; simp [Fl.val, VRel]



/-- the call of a lambda -/
theorem call_fnE {fa : Addr} {F : FnA} {D : Value → Prop} {ln : List Str} {xs : List V} {vals : List (Option V)} {body : Expr} {n : Nat}
    (G : C.Ok gl) (hF : ∀ s, Rel C H s → ∃ cd, D cd ∧ FnAt s.heap fa F cd) (hroom : Room A (n + 1)) (hb : F.body = .expr body) (hbind : Binds F (ln.take xs.length))
    (hln : ∀ x ∈ ln, F.scope.names.lookup x = some .local) (nd : ln.Nodup) (hcell : ∀ x ∈ F.scope.names, x.2 ≠ .cell) (i : Init ln xs vals)
    (h : ∀ L cd, D cd → WP C (A.deeper (envF F L fa cd F.closure)) (VRel C.X) (eval body (envF F L fa cd F.closure)) (fun v H₁ => ∃ H₂, Sub H₂ H₁ ∧ Q v H₂) ((L, .ns ln vals) :: H))
    (hco : F.scope.isCoroutine = false := by with_unfolding_all rfl) (hgen : F.scope.isGenerator = false := by with_unfolding_all rfl) (hk : F.scope.kind = .function := by with_unfolding_all rfl) :
    WPC C A (.ref fa) xs Q H := fun fv avs s rf ra R => by
  simp only [VRel] at rf; subst rf
  obtain ⟨cd, hD, hFn⟩ := hF s R
  obtain ⟨o, fd, ho, hd, e1, e2, e3, e4, e5, e6, e7, e8, e9, e10, hrec⟩ := hFn.ex
  have hlen := ra.length
  refine ⟨⟨.frame, fun Q' q => ?_⟩, ?_⟩
  · unfold keeperOf
    refine wpAny_bind (wpAny_load ho ?_)
    rw [hd]
    exact wpAny_pure q
  · have hA : A.depth < recursionLimit := by have := hroom.depth; unfold recursionLimit; lia
    refine wpAny_call (kla_callFunE (body := body) hA ho hd (by rw [e4]; exact hco) (by rw [e4]; exact hgen) (by rw [e3]; exact hb) (by rw [e10, e1]; exact hrec) ?_)
    have hpn : avs.length = (ln.take xs.length).length := by rw [List.length_take, Nat.min_eq_left i.le, hlen]
    rw [hbind fd avs e2 e8 e9 hpn, e4, e5, e6, e7, e1, e10]
    refine wpAny_pure (wpAny_newFunctionEnv hcell (fun x hx => hln x.1 ?_) (fun h' hns hsb => ?_) hk)
    · exact List.mem_of_mem_take (List.of_mem_zip hx).1
    · have ext : ∀ b o, s.heap.get? b = some o → h'.get? b = some o := fun b o e => hsb.extBut b o (Nat.ne_of_lt (Heap.lt_size e)) (Heap.get?_push_of_some _ e)
      refine ⟨(G.nolimit.keeps R.keep).keeps ext, ?_⟩
      show codeAny _ A (.expr body (envF F s.heap.objs.size fa cd F.closure)) _ _
      have R' : Rel C ((s.heap.objs.size, .ns ln vals) :: H) { s with heap := h', toks := s.toks + ((ln.take xs.length).zip avs).length } :=
        R.add ext (Nat.le_refl _) ⟨nd, _, hns, ns_init nd i (ra.fz (fz_of_ext ext)) fun x _ v e => e⟩
      have k' : Kept H s ((s.heap.objs.size, .ns ln vals) :: H) { s with heap := h', toks := s.toks + ((ln.take xs.length).zip avs).length } := kept_add ext (Nat.le_refl _)
      refine kla_codeExpr (wpAny_mono (h _ _ hD _ R') (fun f s₁ ⟨fl, H₁, ⟨H₂, sub, q⟩, rf, R₁, k₁⟩ => ?_) fun _ _ e => e.elim)
      exact ⟨fl, H₂, q, rf, R₁.sub sub, (k'.trans k₁).sub sub⟩

/-- the cells at a frame's start -/
inductive CInit (pn : List Str) (xs : List (Option V)) : List (Str × Addr) → AH → Prop
  | nil : CInit pn xs [] []
  | param {n c v cs Hc} : At pn xs n v → CInit pn xs cs Hc → CInit pn xs ((n, c) :: cs) ((c, .cell (some v)) :: Hc)
  | other {n c cs Hc} : CInit pn xs cs Hc → CInit pn xs ((n, c) :: cs) ((c, .cell none) :: Hc)
theorem At.index {ns os x v} (a : At ns os x v) : ∃ k : Nat, ns[k]? = some x ∧ os[k]? = some (some v) := by
  induction a with
  | head => exact ⟨0, rfl, rfl⟩
  | tail _ ih => obtain ⟨k, h1, h2⟩ := ih; exact ⟨k + 1, by simpa using h1, by simpa using h2⟩
theorem CInit.keys {pn xs cs Hc} (c : CInit pn xs cs Hc) : keys Hc = cs.map (·.2) := by
  induction c <;> simp_all [Mine.keys]
theorem CInit.mem {pn xs cs Hc} (c : CInit pn xs cs Hc) : ∀ p ∈ Hc, ∃ n o, p.2 = .cell o ∧ (n, p.1) ∈ cs ∧ ∀ v, o = some v → At pn xs n v := by
  induction c with
  | nil => intro p hp; cases hp
  | param a _ ih =>
    intro p hp
    rcases List.mem_cons.mp hp with rfl | hp
    · exact ⟨_, _, rfl, .head _, fun v e => by cases e; exact a⟩
    · obtain ⟨n, o, h1, h2, h3⟩ := ih p hp; exact ⟨n, o, h1, .tail _ h2, h3⟩
  | other _ ih =>
    intro p hp
    rcases List.mem_cons.mp hp with rfl | hp
    · exact ⟨_, _, rfl, .head _, fun v e => by cases e⟩
    · obtain ⟨n, o, h1, h2, h3⟩ := ih p hp; exact ⟨n, o, h1, .tail _ h2, h3⟩

theorem Rel.addAll {s : Shared} {h' : Heap} {t : Tok} (R : Rel C H s) (k : ∀ b o, s.heap.get? b = some o → h'.get? b = some o) {N : AH} (hn : (keys N).Nodup) (hge : ∀ p ∈ N, s.heap.objs.size ≤ p.1) (ho : ∀ p ∈ N, ORel C.X h' p.1 p.2) :
    Rel C (N ++ H) { s with heap := h', toks := t } ∧ Kept H s (N ++ H) { s with heap := h', toks := t } := by
  refine ⟨⟨fun b o e => k b o (R.keep b o e), R.gens, R.os, ?_, fun p hp => ?_, fun p hp => ?_, fun b hb => ?_⟩, fun b o n e => ⟨k b o e, fun h => ?_⟩⟩
  · simp only [keys, List.map_append]
    refine List.nodup_append.mpr ⟨hn, R.nd, fun a ha b hb e => ?_⟩
    subst e
    obtain ⟨p, hp, rfl⟩ := List.mem_map.mp ha
    exact absurd (R.lt hb) (Nat.not_lt.mpr (hge p hp))
  · rcases List.mem_append.mp hp with hp | hp
    · exact R.baseNew (hge p hp)
    · exact R.fresh p hp
  · rcases List.mem_append.mp hp with hp | hp
    · exact ho p hp
    · exact (R.objs p hp).move (fz_of_ext k) fun o e => k _ o e
  · obtain ⟨n, o, e⟩ := R.xl b hb
    refine ⟨fun h => ?_, o, k _ _ e⟩
    simp only [keys, List.map_append] at h
    rcases List.mem_append.mp h with h | h
    · obtain ⟨p, hp, rfl⟩ := List.mem_map.mp h
      exact absurd (Heap.lt_size e) (Nat.not_lt.mpr (hge p hp))
    · exact n h
  · simp only [keys, List.map_append] at h
    rcases List.mem_append.mp h with h | h
    · obtain ⟨p, hp, rfl⟩ := List.mem_map.mp h
      exact absurd (Heap.lt_size e) (Nat.not_lt.mpr (hge p hp))
    · exact n h

/-- the call of a function with cells of its own (and no closure) -/
theorem call_fnC {fa : Addr} {F : FnA} {cd : Value} {pn ln : List Str} {xs : List V} {vals : List (Option V)} {body : List Stmt} {n : Nat}
    (G : C.Ok gl) (hF : ∀ s, Rel C H s → FnAt s.heap fa F cd) (hroom : Room A (n + 1)) (hb : F.body = .stmts body) (hclo : F.closure = []) (hbind : Binds F pn) (hpl : pn.length = xs.length) (ndp : pn.Nodup)
    (hln : ∀ x ∈ ln, F.scope.names.lookup x = some .local) (nd : ln.Nodup)
    (hkind : ∀ x ∈ pn, F.scope.names.lookup x = some .local ∨ F.scope.names.lookup x = some .cell)
    (hcs : ∀ L x, x ∈ pn → F.scope.names.lookup x = some .cell → ((cellsFrom (L + 1) F.scope.names []).lookup x).isSome = true)
    (hnl : ∀ L, ∀ p ∈ cellsFrom (L + 1) F.scope.names [], F.scope.names.lookup p.1 = some .cell ∧ (cellsFrom (L + 1) F.scope.names []).lookup p.1 = some p.2)
    (hv : ln.length = vals.length) (hvals : ∀ (k : Nat) x u, ln[k]? = some x → vals[k]? = some (some u) → At pn (xs.map some) x u)
    (h : ∀ L, ∃ Hc, CInit pn (xs.map some) (cellsFrom (L + 1) F.scope.names []) Hc ∧
      WPS C (A.deeper (envF F L fa cd (cellsFrom (L + 1) F.scope.names []))) (envF F L fa cd (cellsFrom (L + 1) F.scope.names [])) body (fun fl H₁ => ∃ H₂, Sub H₂ H₁ ∧ Q fl.val H₂) (Hc ++ (L, .ns ln vals) :: H))
    (hco : F.scope.isCoroutine = false := by with_unfolding_all rfl) (hgen : F.scope.isGenerator = false := by with_unfolding_all rfl) (hk : F.scope.kind = .function := by with_unfolding_all rfl) :
    WPC C A (.ref fa) xs Q H := fun fv avs s rf ra R => by
  simp only [VRel] at rf; subst rf
  obtain ⟨o, fd, ho, hd, e1, e2, e3, e4, e5, e6, e7, e8, e9, e10, hrec⟩ := (hF s R).ex
  have hlen := ra.length
  refine ⟨⟨.frame, fun Q' q => ?_⟩, ?_⟩
  · unfold keeperOf
    refine wpAny_bind (wpAny_load ho ?_)
    rw [hd]
    exact wpAny_pure q
  · have hA : A.depth < recursionLimit := by have := hroom.depth; unfold recursionLimit; lia
    refine wpAny_call (codeAny_call_function (body := body) hA ho hd (by rw [e4]; exact hco) (by rw [e4]; exact hgen) (by rw [e3]; exact hb) (by rw [e10, e1]; exact hrec) ?_)
    have hpn : avs.length = pn.length := by rw [hpl, hlen]
    rw [hbind fd avs e2 e8 e9 hpn, e4, e5, e6, e7, e1, e10, hclo]
    refine wpAny_pure (wpAny_newFunctionEnv_cells hk (fun x hx => ?_) fun env he s' X => ?_)
    · have hx' := (List.of_mem_zip hx).1
      rcases hkind _ hx' with q | q
      · exact .inl q
      · exact .inr ⟨q, hcs _ _ hx' q⟩
    · have he' : env = envF F s.heap.objs.size fa cd (cellsFrom (s.heap.objs.size + 1) F.scope.names []) := he
      subst he'
      have ext := X.toInCall.keep
      obtain ⟨h', tk, rfl⟩ := X.toInCall.same
      refine ⟨(G.nolimit.keeps R.keep).keeps ext, ?_⟩
      obtain ⟨Hc, ci, hw⟩ := h s.heap.objs.size
      have ndz : ((pn.zip avs).map (·.1)).Nodup := by
        exact ndp.sublist (zip_fst_sub _ _)
      have getz : ∀ x u, At pn (xs.map some) x u → ∃ v, (pn.zip avs).reverse.lookup x = some v ∧ VRel C.X h' u v := fun x u a => by
        obtain ⟨k, h1, h2⟩ := a.index
        rw [List.getElem?_map] at h2
        obtain ⟨u', hu, e⟩ := Option.map_eq_some_iff.mp h2
        cases e
        obtain ⟨v, hv, rv⟩ := ra.get hu
        refine ⟨v, lookup_rev ndz (List.mem_iff_getElem?.mpr ⟨k, ?_⟩), rv.fz (fz_of_ext ext)⟩
        rw [List.getElem?_zip_eq_some]; exact ⟨h1, hv⟩
      have rN := Rel.addAll (t := tk) R ext (N := Hc ++ [(s.heap.objs.size, .ns ln vals)]) ?_ ?_ ?_
      · obtain ⟨R', k'⟩ := rN
        rw [List.append_assoc] at R' k'
        refine codeAny_func (wpAny_mono (hw _ R') (fun f s₁ ⟨fl, H₁, ⟨H₂, sub, q⟩, rf, R₁, k₁⟩ => ?_) fun _ _ e => e.elim)
        refine ⟨fl.val, H₂, q, ?_, R₁.sub sub, (k'.trans k₁).sub sub⟩
        cases fl with
        | ret v => obtain ⟨w, rfl, rw⟩ := rf; exact rw
        | next => cases rf; simp [Fl.val, VRel]
        | brk => cases rf; simp [Fl.val, VRel]
        | cont => cases rf; simp [Fl.val, VRel]
      · simp only [keys, List.map_append, List.map_cons, List.map_nil]
        have hke := ci.keys
        simp only [keys] at hke
        rw [hke]
        refine List.nodup_append.mpr ⟨List.pairwise_map.mpr X.apart, by simp, fun a ha b hb e => ?_⟩
        subst e
        obtain ⟨p, hp, rfl⟩ := List.mem_map.mp ha
        have hgt := X.above p.1 p.2 hp
        rw [List.mem_singleton.mp hb] at hgt
        exact Nat.lt_irrefl _ hgt
      · intro p hp
        rcases List.mem_append.mp hp with hp | hp
        · obtain ⟨n, o, _, hm, _⟩ := ci.mem p hp
          exact Nat.le_of_lt (X.above _ _ hm)
        · rw [List.mem_singleton.mp hp]; exact Nat.le_refl _
      · intro p hp
        rcases List.mem_append.mp hp with hp | hp
        · obtain ⟨n, o, e, hm, ha⟩ := ci.mem p hp
          obtain ⟨hk1, hk2⟩ := hnl _ _ hm
          rw [e]
          have hcell := X.cell n p.1 hk2
          refine ⟨_, hcell, fun u hu => ?_⟩
          obtain ⟨v, hv, rv⟩ := getz n u (ha u hu)
          refine ⟨v, ?_, rv⟩
          rw [bindC_eq _ _ _ _ (by show F.scope.names.lookup n ≠ _; rw [hk1]; decide), hv]; rfl
        · rw [List.mem_singleton.mp hp]
          refine ⟨nd, _, X.toInCall.ns, NsRel.of_get hv.symm fun k x u h1 h2 => ?_⟩
          obtain ⟨v, hv', rv⟩ := getz x u (hvals k x u h1 h2)
          refine ⟨v, ?_, rv⟩
          rw [bindL_eq _ _ _ _ (hln x (List.mem_of_getElem? h1)), hv']; rfl
end
end
noncomputable section
theorem Upd.self {a : Addr} {x : AO} : ∀ {H : AH}, (a, x) ∈ H → Upd a x x H H
  | p :: r, h => by
    rcases List.mem_cons.mp h with rfl | h
    · exact .head
    · exact .tail (Upd.self h)

section
variable {C : Cfg} {gl : List (Str × V)} {A : Around} {env : Env} {c P : Addr} {qual name : Str} {params : Arguments} {body : FuncBody} {scope : Scope} {clos : List (Str × Addr)} {pos : Pos} {fl : Nat} {H H' : AH} {Q : V → AH → Prop}

theorem CodeF.of_tab {h : Heap} {c P : Addr} {ps : Array Value} {q : Str} (t : h.TableAt c P ps) (r : h.CodeRec (.ref c) q) : CodeF h (.ref c) q := by
  obtain ⟨⟨o, vs, e1, e2, e3, _⟩, _⟩ := t
  obtain ⟨c', o', vs', t', ec, e1', e3', e4⟩ := r
  cases ec
  rw [e1] at e1'; cases e1'
  rw [e3] at e3'; cases e3'
  exact ⟨c, o, vs, t', rfl, e1, e2, e3, e4⟩

theorem fn_rel {X : List Addr} {h : Heap} {f : Addr} {fd : FuncData} (hg : h.get? f = some { cls := .type "function", data := .func fd }) (e1 : fd.qualname = qual) (e2 : fd.params = params) (e3 : fd.body = body) (e4 : fd.scope = scope) (e5 : fd.closure = clos)
    (e6 : fd.globals = mainGlobals) (e7 : fd.builtins = builtinsNs) (e8 : fd.defaults = .none) (e9 : fd.kwdefaults = .none) (e10 : CodeF h fd.code qual) : ORel X h f (.fn ⟨qual, params, body, scope, clos⟩) :=
  ⟨_, fd, hg, rfl, rfl, e1, e2, e3, e4, e5, e6, e7, e8, e9, e1 ▸ e10, rfl, rfl⟩

theorem codeAmong_app {p : Pos} {a b : Int} {c c' : Value} (l : List Value) (h : TriplesOk l) : codeAmong p (l ++ [rawInt a, rawInt b, c]) = some c' → codeAmong p l = some c' ∨ c' = c := by
  fun_induction TriplesOk l with
  | case1 =>
    intro e
    right
    simp only [List.nil_append, rawInt, codeAmong] at e
    split at e
    · cases e; rfl
    · cases e
  | case2 a' t b' u x rest ih =>
    intro e
    simp only [List.cons_append, codeAmong] at e ⊢
    split at e
    · rename_i hc; rw [if_pos hc]; exact .inl e
    · rename_i hc; rw [if_neg hc]; exact ih h e
  | case3 l h1 h2 => exact h.elim

theorem mk_fn (G : C.Ok gl) (hcode : env.code = .ref c) (hC : CodeHd C.B c P) (hglob : env.globals = mainGlobals) (hP : (P, AO.tab qual) ∈ H) (hcl : closureFor scope env = pure clos)
    (q : ∀ f, Q (.ref f) ((f, .fn ⟨qual, params, body, scope, clos⟩) :: H)) : WP C A (VRel C.X) (makeFunction name qual params body scope env [] [] [] pos fl) Q H := fun s R => by
  obtain ⟨ps, hps, htr, hall⟩ := R.objs _ hP
  have hPk : P ∈ keys H := List.mem_map_of_mem (f := Prod.fst) hP
  have hPB : C.B.get? P = none := R.fresh _ hP
  have CH := hC.keeps R.keep
  obtain ⟨bm, ob, b1, b2, b3, b4, b5, b6⟩ := G.bmain
  have ne : ∀ {a o}, C.B.get? a = some o → a ≠ P := fun e q => by rw [q, hPB] at e; cases e
  have hgP : mainGlobals ≠ P := let ⟨_, _, _, e, _⟩ := G.g; ne e
  have hbo := R.keep _ _ b3
  rw [makeFunction_eq]
  simp only [List.zip_nil_right, List.filterMap_nil, List.isEmpty_nil, if_true, pure_bind]
  unfold makeTail
  rw [hcl, hglob]
  refine wpAny_bind (wpAny_pure ?_)
  have fin : ∀ (h₁ h₂ : Heap) (tk : Tok) (fd : FuncData) (cv : Value), (∀ b o, b ≠ P → s.heap.get? b = some o → h₂.get? b = some o) → s.heap.objs.size ≤ h₂.objs.size →
      (∃ ps', h₂.get? P = some (tabObj ps') ∧ TriplesOk ps'.toList ∧ ∀ pos c, codeAmong pos ps'.toList = some c → CodeF h₂ c qual) → CodeF h₂ cv qual →
      fd.qualname = qual → fd.params = params → fd.body = body → fd.scope = scope → fd.closure = clos → fd.globals = mainGlobals → fd.builtins = builtinsNs → fd.defaults = .none → fd.kwdefaults = .none → fd.code = cv →
      ∃ x H', Q x H' ∧ VRel C.X (h₂.push { cls := .type "function", data := .func fd }) x (.ref h₂.objs.size) ∧ Rel C H' { s with heap := h₂.push { cls := .type "function", data := .func fd }, toks := tk } ∧ Kept H s H' { s with heap := h₂.push { cls := .type "function", data := .func fd }, toks := tk } := by
    intro h₁ h₂ tk fd cv hk hsz ht hcv e1 e2 e3 e4 e5 e6 e7 e8 e9 e10
    obtain ⟨R₂, k₂⟩ := R.upd (h' := h₂) (t := tk) (Upd.self hP) hk (by obtain ⟨ps', h1, h2, h3⟩ := ht; exact ⟨ps', h1, h2, h3⟩)
    have ext : ∀ b o, h₂.get? b = some o → (h₂.push { cls := .type "function", data := .func fd }).get? b = some o := fun b o e => Heap.get?_push_of_some _ e
    refine ⟨.ref h₂.objs.size, (h₂.objs.size, .fn ⟨qual, params, body, scope, clos⟩) :: H, q _, rfl, R₂.add (s := { s with heap := h₂, toks := tk }) ext (Nat.le_refl _) ?_, k₂.trans (kept_add (s := { s with heap := h₂, toks := tk }) ext (Nat.le_refl _))⟩
    exact fn_rel (Heap.get?_push_size _ rfl) e1 e2 e3 e4 e5 e6 e7 e8 e9 (e10 ▸ hcv.fz (fz_of_ext (X := C.X) ext))
  have hplace : ∀ (h₁ : Heap), (∀ b o, s.heap.get? b = some o → h₁.get? b = some o) → ∀ (c' P' : Addr) (h' : Heap), Heap.ExtBut P h₁ h' → h'.CodeRec (.ref c') qual → h'.TableAt c P (ps ++ #[rawInt pos.line, rawInt pos.col, .ref c']) → h'.TableAt c' P' #[] → codeAmong pos ps.toList = none →
      (∃ ps', h'.get? P = some (tabObj ps') ∧ TriplesOk ps'.toList ∧ ∀ pos c, codeAmong pos ps'.toList = some c → CodeF h' c qual) ∧ CodeF h' (.ref c') qual := by
    intro h₁ k₁ c' P' h' hx hrec htb htb' hca
    have hcf := CodeF.of_tab htb' hrec
    refine ⟨⟨_, htb.2, ?_, ?_⟩, hcf⟩
    · simpa using TriplesOk_snoc pos.line pos.col (.ref c') _ htr
    · intro pos' c'' hc''
      have hf : Fz C.X s.heap h' := fun a o e f => hx a o (fun q => R.notin e f (q ▸ hPk)) (k₁ a o e)
      have hc3 : codeAmong pos' (ps.toList ++ [rawInt pos.line, rawInt pos.col, .ref c']) = some c'' := by simpa using hc''
      rcases codeAmong_app _ htr hc3 with h1 | rfl
      · exact (hall _ _ h1).fz hf
      · exact hcf
  cases clos with
  | nil =>
    simp only [List.isEmpty_nil, if_true]
    refine wpAny_bind (wpAny_pure ?_)
    cases hca : codeAmong pos ps.toList with
    | some cv =>
      refine wpAny_bind (wpAny_functionCode_hit hcode (CH.code hps htr) hca ?_)
      refine wpAny_bind (wpAny_builtinsFor (G.g.keeps R.keep) b1 b2 hbo b4 b5 b6 ?_)
      refine wpAny_bind (wpAny_nsGet (G.g.keeps R.keep) ?_)
      cases body with
      | expr e => exact wpAny_bind (wpAny_pure (wpAny_newObj_type (fin s.heap s.heap _ _ cv (fun _ _ _ e => e) (Nat.le_refl _) ⟨ps, hps, htr, hall⟩ (hall _ _ hca) rfl rfl rfl rfl rfl rfl rfl rfl rfl rfl) (by size_fits)))
      | stmts b =>
        cases hdoc : docOf b with
        | none => simp only [hdoc]; exact wpAny_bind (wpAny_pure (wpAny_newObj_type (fin s.heap s.heap _ _ cv (fun _ _ _ e => e) (Nat.le_refl _) ⟨ps, hps, htr, hall⟩ (hall _ _ hca) rfl rfl rfl rfl rfl rfl rfl rfl rfl rfl) (by size_fits)))
        | some t => simp only [hdoc]; exact wpAny_bind (wpAny_mkText (wpAny_newObj_type (fin s.heap s.heap _ _ cv (fun _ _ _ e => e) (Nat.le_refl _) ⟨ps, hps, htr, hall⟩ (hall _ _ hca) rfl rfl rfl rfl rfl rfl rfl rfl rfl rfl) (by size_fits)))
    | none =>
      refine wpAny_bind (wpAny_functionCodeX hcode (CH.code hps htr) (CH.tab hps) hca fun c' h' tk hx hge hlt _ hrec htb ⟨P', _, _, htb'⟩ => ?_)
      have hg' := (G.g.keeps R.keep).extBut hx hgP
      refine wpAny_bind (wpAny_builtinsFor hg' b1 b2 (hx _ _ (ne b3) hbo) b4 b5 b6 ?_)
      obtain ⟨p1, p2⟩ := hplace s.heap (fun _ _ e => e) c' P' h' hx hrec htb htb' hca
      refine wpAny_bind (wpAny_nsGet hg' ?_)
      cases body with
      | expr e => exact wpAny_bind (wpAny_pure (wpAny_newObj_type (fin s.heap h' _ _ (.ref c') (fun b o n e => hx b o n e) (Nat.le_trans hge (Nat.le_of_lt hlt)) p1 p2 rfl rfl rfl rfl rfl rfl rfl rfl rfl rfl) (by size_fits)))
      | stmts b =>
        cases hdoc : docOf b with
        | none => simp only [hdoc]; exact wpAny_bind (wpAny_pure (wpAny_newObj_type (fin s.heap h' _ _ (.ref c') (fun b o n e => hx b o n e) (Nat.le_trans hge (Nat.le_of_lt hlt)) p1 p2 rfl rfl rfl rfl rfl rfl rfl rfl rfl rfl) (by size_fits)))
        | some t => simp only [hdoc]; exact wpAny_bind (wpAny_mkText (wpAny_newObj_type (fin s.heap h' _ _ (.ref c') (fun b o n e => hx b o n e) (Nat.le_trans hge (Nat.le_of_lt hlt)) p1 p2 rfl rfl rfl rfl rfl rfl rfl rfl rfl rfl) (by size_fits)))
  | cons q' r' =>
    simp only [List.isEmpty_cons, Bool.false_eq_true, if_false]
    refine wpAny_bind (wpAny_newTextTuple ?_)
    generalize hT : (s.heap.push { cls := .type "tuple", dict := none, data := .seq _ }) = h₁
    have k₁ : ∀ b o, s.heap.get? b = some o → h₁.get? b = some o := fun b o e => hT ▸ Heap.get?_push_of_some _ e
    have z₁ : s.heap.objs.size ≤ h₁.objs.size := by rw [← hT, Heap.size_push]; omega
    have hg₁ : h₁.Ns mainGlobals C.mg := (G.g.keeps R.keep).keeps k₁
    have CH₁ := CH.keeps k₁
    have hP₁ := k₁ _ _ hps
    cases hca : codeAmong pos ps.toList with
    | some cv =>
      refine wpAny_bind (wpAny_functionCode_hit hcode (CH₁.code hP₁ htr) hca ?_)
      refine wpAny_bind (wpAny_builtinsFor hg₁ b1 b2 (k₁ _ _ hbo) b4 b5 b6 ?_)
      refine wpAny_bind (wpAny_nsGet hg₁ ?_)
      cases body with
      | expr e => exact wpAny_bind (wpAny_pure (wpAny_newObj_type (fin s.heap h₁ _ _ cv (fun _ _ _ e => k₁ _ _ e) z₁ ⟨ps, hP₁, htr, fun p c hc => (hall p c hc).fz (fz_of_ext (X := C.X) k₁)⟩ ((hall _ _ hca).fz (fz_of_ext (X := C.X) k₁)) rfl rfl rfl rfl rfl rfl rfl rfl rfl rfl) (by size_fits)))
      | stmts b =>
        cases hdoc : docOf b with
        | none => simp only [hdoc]; exact wpAny_bind (wpAny_pure (wpAny_newObj_type (fin s.heap h₁ _ _ cv (fun _ _ _ e => k₁ _ _ e) z₁ ⟨ps, hP₁, htr, fun p c hc => (hall p c hc).fz (fz_of_ext (X := C.X) k₁)⟩ ((hall _ _ hca).fz (fz_of_ext (X := C.X) k₁)) rfl rfl rfl rfl rfl rfl rfl rfl rfl rfl) (by size_fits)))
        | some t => simp only [hdoc]; exact wpAny_bind (wpAny_mkText (wpAny_newObj_type (fin s.heap h₁ _ _ cv (fun _ _ _ e => k₁ _ _ e) z₁ ⟨ps, hP₁, htr, fun p c hc => (hall p c hc).fz (fz_of_ext (X := C.X) k₁)⟩ ((hall _ _ hca).fz (fz_of_ext (X := C.X) k₁)) rfl rfl rfl rfl rfl rfl rfl rfl rfl rfl) (by size_fits)))
    | none =>
      refine wpAny_bind (wpAny_functionCodeX hcode (CH₁.code hP₁ htr) (CH₁.tab hP₁) hca fun c' h' tk hx hge hlt _ hrec htb ⟨P', _, _, htb'⟩ => ?_)
      have hg' := hg₁.extBut hx hgP
      refine wpAny_bind (wpAny_builtinsFor hg' b1 b2 (hx _ _ (ne b3) (k₁ _ _ hbo)) b4 b5 b6 ?_)
      obtain ⟨p1, p2⟩ := hplace h₁ k₁ c' P' h' hx hrec htb htb' hca
      refine wpAny_bind (wpAny_nsGet hg' ?_)
      cases body with
      | expr e => exact wpAny_bind (wpAny_pure (wpAny_newObj_type (fin s.heap h' _ _ (.ref c') (fun b o n e => hx b o n (k₁ b o e)) (Nat.le_trans z₁ (Nat.le_trans hge (Nat.le_of_lt hlt))) p1 p2 rfl rfl rfl rfl rfl rfl rfl rfl rfl rfl) (by size_fits)))
      | stmts b =>
        cases hdoc : docOf b with
        | none => simp only [hdoc]; exact wpAny_bind (wpAny_pure (wpAny_newObj_type (fin s.heap h' _ _ (.ref c') (fun b o n e => hx b o n (k₁ b o e)) (Nat.le_trans z₁ (Nat.le_trans hge (Nat.le_of_lt hlt))) p1 p2 rfl rfl rfl rfl rfl rfl rfl rfl rfl rfl) (by size_fits)))
        | some t => simp only [hdoc]; exact wpAny_bind (wpAny_mkText (wpAny_newObj_type (fin s.heap h' _ _ (.ref c') (fun b o n e => hx b o n (k₁ b o e)) (Nat.le_trans z₁ (Nat.le_trans hge (Nat.le_of_lt hlt))) p1 p2 rfl rfl rfl rfl rfl rfl rfl rfl rfl rfl) (by size_fits)))

theorem fnAt_of_fn {f : Addr} {F : FnA} (h : (f, AO.fn F) ∈ H) : ∀ s, Rel C H s → ∃ cd, True ∧ FnAt s.heap f F cd := fun s R => by
  obtain ⟨o, fd, e, c, d, r1, r2, r3, r4, r5, r6, r7, r8, r9, r10⟩ := R.objs _ h
  exact ⟨fd.code, trivial, ⟨o, fd, e, d, r1, r2, r3, r4, r5, r6, r7, r8, r9, rfl, r1 ▸ r10.1.rec⟩⟩
theorem fnAt_of_base {f : Addr} {F : FnA} {cd : Value} (h : FnAt C.B f F cd) : ∀ s, Rel C H s → ∃ cd', cd' = cd ∧ FnAt s.heap f F cd' := fun s R => ⟨cd, rfl, h.keeps R.keep⟩

theorem wp_Lambda {e : Expr} (G : C.Ok gl) (hcode : env.code = .ref c) (hC : CodeHd C.B c P) (hglob : env.globals = mainGlobals) (hP : (P, AO.tab qual) ∈ H) (hcl : closureFor scope env = pure clos)
    (q : ∀ f, Q (.ref f) ((f, .fn ⟨qual, params, .expr e, scope, clos⟩) :: H)) (hq : env.qual ++ "<lambda>" = qual)
    (hd : defaultsOf params env = ([], []) := by with_unfolding_all rfl) : WP C A (VRel C.X) (eval (.Lambda params e scope pos) env) Q H := fun s R => by
  have h1 : eval (.Lambda params e scope pos) env = (do
    let (d, kd) := defaultsOf params env
    let dv ← evalAll d
    let kdv ← holding dv (evalAllOpt kd)
    makeFunction "<lambda>" (env.qual ++ "<lambda>") params (.expr e) scope env dv kdv [] pos pos.line) := rfl
  rw [h1, hd]
  refine wpAny_bind (wpAny_pure (wpAny_bind (wpAny_holding (wpAny_pure ?_))))
  rw [hq]
  exact mk_fn G hcode hC hglob hP hcl q s R

variable {QF : Fl → AH → Prop}
theorem wp1_Def {b : List Stmt} (G : C.Ok gl) (hcode : env.code = .ref c) (hC : CodeHd C.B c P) (hglob : env.globals = mainGlobals) (hP : (P, AO.tab qual) ∈ H) (hcl : closureFor scope env = pure clos)
    (h : ∀ f, Op1 C A URel (storeName env name) (.ref f) (fun _ H₂ => QF .next H₂) ((f, .fn ⟨qual, params, .stmts b, scope, clos⟩) :: H)) (hq : qualnameIn env name name = qual)
    (hd : defaultsOf params env = ([], []) := by with_unfolding_all rfl) (ha : annTrees params none env = [] := by with_unfolding_all rfl) : WP1 C A env (.FunctionDef name params b [] none [] scope none name pos) QF H := fun s R => by
  rw [exec_def, hd, ha, hq]
  refine wpAny_bind (wpAny_standAt (wpAny_bind (wpAny_holding ?_)))
  refine wpAny_bind (wpAny_pure (wpAny_bind (wpAny_holding (wpAny_pure (wpAny_holding (wpAny_bind (wpAny_pure ?_)))))))
  refine wpAny_mono (mk_fn (Q := fun v H₁ => Op1 C A URel (storeName env name) v (fun _ H₂ => QF .next H₂) H₁) G hcode hC hglob hP hcl h s R) (fun w s₁ p47 => Post.el p47 fun v H₁ q rw R₁ k => ?_) fun _ _ e => e
  exact wpAny_bind (wpAny_standAt (wpAny_bind (wpAny_bindName (wpAny_mono (q w s₁ rw R₁) (fun _ _ p48 => Post.el p48 fun _ H₂ q₂ _ R₂ k₂ => wpAny_pure ⟨.next, H₂, q₂, rfl, R₂, k.trans k₂⟩) fun _ _ e => e))))
end
end
noncomputable section
/-- what an iterator, its own objects at fp (nobody else's), gives turn by turn -/
structure Src (C : Cfg) (A : Around) (target : Expr) (it : Value) (fp wr : List Addr) (J : Nat → Heap → Prop) (Item : Nat → AH → Option V → Prop) : Prop where
  sub : ∀ b ∈ wr, b ∈ fp
  nofz : ∀ i h, J i h → ∀ b ∈ wr, ∀ o, h.get? b = some o → ¬ Frozen C.X b o
  live : ∀ i h, J i h → ∀ b ∈ fp, ∃ o, h.get? b = some o
  frame : ∀ i h h', J i h → Fz C.X h h' → (∀ b ∈ fp, ∀ o, h.get? b = some o → h'.get? b = some o) → J i h'
  self : ∀ i s, J i s.heap → wpAny (model C.prog C.w) A (pyIter it) (fun r s' => r = it ∧ s' = s) NoE s
  item : ∀ i H s x, J i s.heap → Rel C H s → (∀ b ∈ fp, b ∉ keys H) → Item i H (some x) →
    wpAny (model C.prog C.w) A (pyNext it) (fun r s' => ∃ v, r = some v ∧ wpAny (model C.prog C.w) A (letOwnedTupleGo target it v) (fun _ s'' =>
      ∃ h' tk, s'' = { s with heap := h', toks := tk } ∧ VRel C.X h' x v ∧ J (i + 1) h' ∧ ∀ b o, b ∉ wr → s.heap.get? b = some o → h'.get? b = some o) NoE s') NoE s
  done : ∀ i H s, J i s.heap → Rel C H s → (∀ b ∈ fp, b ∉ keys H) → Item i H none →
    wpAny (model C.prog C.w) A (pyNext it) (fun r s' => r = none ∧ ∃ h' tk, s' = { s with heap := h', toks := tk } ∧ ∀ b o, b ∉ wr → s.heap.get? b = some o → h'.get? b = some o) NoE s

theorem Rel.but {C : Cfg} {H : AH} {s : Shared} (R : Rel C H s) {wr : List Addr} (hk : ∀ b ∈ wr, b ∉ keys H) (hB : ∀ b ∈ wr, C.B.get? b = none) (hfz : ∀ b ∈ wr, ∀ o, s.heap.get? b = some o → ¬ Frozen C.X b o) {h' : Heap} {t : Tok}
    (hl : ∀ b ∈ wr, ∃ o, h'.get? b = some o) (k : ∀ b o, b ∉ wr → s.heap.get? b = some o → h'.get? b = some o) : Rel C H { s with heap := h', toks := t } where
  keep := fun b o e => k b o (fun q => by rw [hB b q] at e; cases e) (R.keep b o e)
  gens := R.gens
  os := R.os
  nd := R.nd
  fresh := R.fresh
  objs := fun p hp => (R.objs p hp).move (fun a o e f => k a o (fun q => hfz a q o e f) e) fun o e => k _ o (fun q => hk _ q (List.mem_map_of_mem hp)) e
  xl := fun a ha => by
    obtain ⟨n, o, e⟩ := R.xl a ha
    by_cases q : a ∈ wr
    · exact ⟨n, hl a q⟩
    · exact ⟨n, o, k a o q e⟩

noncomputable def Cfg.hide (C : Cfg) (l : List Addr) : Cfg := { C with X := l ++ C.X }

noncomputable abbrev TChg (X X' : List Addr) (h h' : Heap) : Prop := ∀ a items, a ∉ X → h.IsTuple a items → a ∉ X' ∧ h'.IsTuple a items
mutual
theorem VRel.chg {X X' : List Addr} {h h' : Heap} (x : TChg X X' h h') : ∀ {u : V} {v : Value}, VRel X h u v → VRel X' h' u v
  | .none, _, r => by simpa only [VRel] using r
  | .bool _, _, r => by simpa only [VRel] using r
  | .int _, _, r => by simpa only [VRel] using r
  | .str _, _, r => by simpa only [VRel] using r
  | .bytes _, _, r => by simpa only [VRel] using r
  | .ref _, _, r => by simpa only [VRel] using r
  | .bi _, _, r => by simpa only [VRel] using r
  | .ty _, _, r => by simpa only [VRel] using r
  | .tup vs, v, r => by
    simp only [VRel] at r ⊢
    obtain ⟨a, items, e, hX, t, q⟩ := r
    obtain ⟨hX', t'⟩ := x a items hX t
    exact ⟨a, items, e, hX', t', VsRel.chg x q⟩
theorem VsRel.chg {X X' : List Addr} {h h' : Heap} (x : TChg X X' h h') : ∀ {us : List V} {vs : List Value}, VsRel X h us vs → VsRel X' h' us vs
  | [], _, r => by simpa only [VsRel] using r
  | u :: us, vs, r => by
    simp only [VsRel] at r ⊢
    obtain ⟨v, l, e, q, q'⟩ := r
    exact ⟨v, l, e, VRel.chg x q, VsRel.chg x q'⟩
end
theorem NsRel.chg {X X' : List Addr} {h h' : Heap} {m : Str → Option Value} (x : TChg X X' h h') : ∀ {ns : List Str} {os : List (Option V)}, NsRel X h m ns os → NsRel X' h' m ns os
  | [], _, r => r
  | n :: ns, l, ⟨o, r, e, q, q'⟩ => ⟨o, r, e, fun u hu => let ⟨v, a, b⟩ := q u hu; ⟨v, a, b.chg x⟩, NsRel.chg x q'⟩
theorem EsRel.chg {X X' : List Addr} {h h' : Heap} (x : TChg X X' h h') : ∀ {es : List (Str × V)} {l : List DictEntry}, EsRel X h es l → EsRel X' h' es l
  | [], _, r => r
  | (k, u) :: es, l, ⟨e, r, a, b, c, d⟩ => ⟨e, r, a, b, c.chg x, d.chg x⟩
theorem notFrozen_chg {X X' : List Addr} {a : Addr} {o : Obj} (hs : a ∉ X' → a ∉ X) (f : ¬ Frozen X a o) : ¬ Frozen X' a o := fun g => f (g.imp (fun ⟨h, r⟩ => ⟨hs h, r⟩) id)
theorem ORel.chg {X X' : List Addr} {h h' : Heap} {a : Addr} (x : TChg X X' h h') (ka : a ∉ X' → a ∉ X) (kc : ∀ c q, CodeF h c q → CodeF h' c q) (k : ∀ o, h.get? a = some o → h'.get? a = some o) : ∀ {u : AO}, ORel X h a u → ORel X' h' a u
  | .list _, ⟨items, ⟨n, e⟩, r⟩ => ⟨items, ⟨n, k _ e⟩, r.chg x⟩
  | .ns _ _, ⟨nd, m, n, r⟩ => ⟨nd, m, n.at' k, r.chg x⟩
  | .cell _, ⟨v, ⟨o, e, hd⟩, r⟩ => ⟨v, ⟨o, k _ e, hd⟩, fun u hu => let ⟨y, a, b⟩ := r u hu; ⟨y, a, b.chg x⟩⟩
  | .attrs _, ⟨l, n, e, r⟩ => ⟨l, n, k _ e, r.chg x⟩
  | .obj _, ⟨e, f⟩ => ⟨k _ e, notFrozen_chg ka f⟩
  | .fn _, ⟨o, fd, e, c, d, r1, r2, r3, r4, r5, r6, r7, r8, r9, r10, r11⟩ => ⟨o, fd, k _ e, c, d, r1, r2, r3, r4, r5, r6, r7, r8, r9, kc _ _ r10, r11⟩
  | .fobj _, ⟨fd, e⟩ => ⟨fd, k _ e⟩
  | .tab _, ⟨ps, e, t, r⟩ => ⟨ps, k _ e, t, fun p c hc => kc _ _ (r p c hc)⟩
  | .dict _, ⟨l, n, e, r⟩ => ⟨l, n, k _ e, r.chg x⟩
theorem unhide_t {X l : List Addr} {h : Heap} : TChg (l ++ X) X h h := fun a items n t => ⟨fun q => n (List.mem_append_right _ q), t⟩
theorem CodeF.ext {h h' : Heap} (k : ∀ b o, h.get? b = some o → h'.get? b = some o) {c : Value} {q : Str} (r : CodeF h c q) : CodeF h' c q := r.fz (X := []) (fz_of_ext k)
theorem Rel.unhide {C : Cfg} {l : List Addr} {H : AH} {s : Shared} (R : Rel (C.hide l) H s) (hl : ∀ p ∈ H, p.1 ∉ l) : Rel C H s where
  keep := R.keep
  gens := R.gens
  os := R.os
  nd := R.nd
  fresh := R.fresh
  objs := fun p hp => (R.objs p hp).chg unhide_t (fun n q => by
    rcases List.mem_append.mp q with q | q
    · exact hl p hp q
    · exact n q) (fun _ _ r => r) fun _ e => e
  xl := fun a ha => R.xl a (List.mem_append_right _ ha)
theorem Rel.butUnhide {C : Cfg} {l wr : List Addr} {H : AH} {s : Shared} (R : Rel (C.hide l) H s) (hk : ∀ b ∈ wr, b ∉ keys H) (hB : ∀ b ∈ wr, C.B.get? b = none) (hX : ∀ b ∈ wr, b ∉ C.X) (hl : ∀ p ∈ H, p.1 ∉ l)
    (hfz : ∀ b ∈ wr, ∀ o, s.heap.get? b = some o → ¬ Frozen (l ++ C.X) b o) {h' : Heap} {t : Tok} (k : ∀ b o, b ∉ wr → s.heap.get? b = some o → h'.get? b = some o) : Rel C H { s with heap := h', toks := t } where
  keep := fun b o e => k b o (fun q => by rw [hB b q] at e; cases e) (R.keep b o e)
  gens := R.gens
  os := R.os
  nd := R.nd
  fresh := R.fresh
  objs := fun p hp => (R.objs p hp).chg
    (fun a items n t => ⟨fun q => n (List.mem_append_right _ q), let ⟨o, e, c, m, d⟩ := t; ⟨o, k a o (fun q => hfz a q o e (.inl ⟨n, c, _, _, d⟩)) e, c, m, d⟩⟩)
    (fun n q => by
      rcases List.mem_append.mp q with q | q
      · exact hl p hp q
      · exact n q) (fun c q ⟨c', o, vs, t, a, b, d, e⟩ => ⟨c', o, vs, t, a, k c' o (fun q => hfz c' q o b (.inr ⟨d, _, e.1⟩)) b, d, e⟩) fun o e => k _ o (fun q => hk _ q (List.mem_map_of_mem hp)) e
  xl := fun a ha => by
    obtain ⟨n, o, e⟩ := R.xl a (List.mem_append_right _ ha)
    exact ⟨n, o, k a o (fun q => hX a q ha) e⟩
theorem Rel.hide {C : Cfg} {l : List Addr} {H : AH} {s : Shared} (R : Rel C H s) {h' : Heap} {t : Tok} (k : ∀ b o, s.heap.get? b = some o → h'.get? b = some o) (hl : ∀ a ∈ l, s.heap.objs.size ≤ a ∧ ∃ o, h'.get? a = some o) :
    Rel (C.hide l) H { s with heap := h', toks := t } := by
  have R' := R.ext (t := t) k
  refine ⟨R'.keep, R'.gens, R'.os, R'.nd, R'.fresh, fun p hp => ?_, fun a ha => ?_⟩
  · refine (R.objs p hp).chg (fun a items n t => ⟨fun q => ?_, let ⟨o, e, r⟩ := t; ⟨o, k _ _ e, r⟩⟩) (fun n q => n (List.mem_append_right _ q)) (fun _ _ r => r.ext k) (k _)
    rcases List.mem_append.mp q with q | q
    · obtain ⟨o, e, _⟩ := t; exact absurd (Heap.lt_size e) (Nat.not_lt.mpr (hl a q).1)
    · exact n q
  · rcases List.mem_append.mp ha with q | q
    · exact ⟨fun h => absurd (R.lt h) (Nat.not_lt.mpr (hl a q).1), (hl a q).2⟩
    · exact R'.xl a q

section
variable {C : Cfg} {gl : List (Str × V)} {A : Around} {env : Env} {target : Expr} {it : Value} {fp wr : List Addr} {J : Nat → Heap → Prop} {Item : Nat → AH → Option V → Prop} {body orelse : List Stmt} {pos : Pos} {H H' : AH} {Q : V → AH → Prop} {QF : Fl → AH → Prop}

/-- a turn's end -/
noncomputable def TurnEnd (P : AH → Prop) (Q : Fl → AH → Prop) : Fl → AH → Prop
  | .next, H => P H
  | .cont, H => P H
  | .brk, H => Q .next H
  | .ret v, H => Q (.ret v) H
noncomputable def ForTurns (C C' : Cfg) (A : Around) (env : Env) (target : Expr) (body orelse : List Stmt) (Q : Fl → AH → Prop) (Item : Nat → AH → Option V → Prop) (H : AH) : Prop :=
  ∃ (I : Nat → AH → Prop) (N : Nat), I 0 H ∧ ∀ i H₁, I i H₁ → (∃ x, i < N ∧ Item i H₁ (some x) ∧ WPA C' A env target x (fun _ H₂ => WPS C' A env body (TurnEnd (I (i + 1)) Q) H₂) H₁) ∨ (Item i H₁ none ∧ WPS C A env orelse Q H₁)
noncomputable def KB (fp : List Addr) (H : AH) (s : Shared) (H' : AH) (s' : Shared) : Prop := ∀ b o, b ∉ fp → b ∉ keys H → s.heap.get? b = some o → s'.heap.get? b = some o ∧ b ∉ keys H'

theorem forLoop_gen {s : Shared} {l : List Addr} (S : Src (C.hide l) A target it fp wr J Item) (R : Rel (C.hide l) H s) (hJ : J 0 s.heap) (hfp : ∀ b ∈ fp, b ∉ keys H) (hB : ∀ b ∈ wr, C.B.get? b = none) (hX : ∀ b ∈ wr, b ∉ C.X) (hl : ∀ b ∈ l, b ∈ wr)
    (T : ForTurns C (C.hide l) A env target body orelse QF Item H) :
    codeAny (model C.prog C.w) A (.forLoop target it body orelse env) (fun r s' => match r with
      | .ok f => ∃ fl H', QF fl H' ∧ FRel C.X s'.heap fl f ∧ Rel C H' s' ∧ KB wr H s H' s'
      | .error e => False) s := by
  obtain ⟨I, N, h0, turn⟩ := T
  refine codeAny_forLoop_any (fun n s' => ∃ i H₁, n = N + 1 - i ∧ i ≤ N ∧ I i H₁ ∧ Rel (C.hide l) H₁ s' ∧ J i s'.heap ∧ (∀ b ∈ fp, b ∉ keys H₁) ∧ KB wr H s H₁ s') ?_ (N + 1)
    ⟨0, H, rfl, Nat.zero_le _, h0, R, hJ, hfp, fun b o _ n e => ⟨e, n⟩⟩
  rintro n s₁ ⟨i, H₁, rfl, hi, hI, R₁, hJ₁, hf₁, kb⟩
  rcases turn i H₁ hI with ⟨x, hlt, hit, hw⟩ | ⟨hit, hw⟩
  · refine wpAny_mono (S.item i H₁ s₁ x hJ₁ R₁ hf₁ hit) (fun r s₂ h₂ => ?_) fun _ _ e => e.elim
    obtain ⟨v, rfl, h₂⟩ := h₂
    refine wpAny_mono h₂ (fun _ s₃ h₃ => ?_) fun _ _ e => e.elim
    obtain ⟨h', tk, rfl, rv, hJ', k⟩ := h₃
    have R₂ : Rel (C.hide l) H₁ { s₁ with heap := h', toks := tk } := R₁.but (fun b hb => hf₁ b (S.sub b hb)) hB (fun b hb => S.nofz i _ hJ₁ b hb) (fun b hb => S.live _ _ hJ' b (S.sub b hb)) k
    have kb₂ : KB wr H s H₁ { s₁ with heap := h', toks := tk } := fun b o nf n e => let ⟨e', n'⟩ := kb b o nf n e; ⟨k b o nf e', n'⟩
    refine wpAny_mono (hw v _ rv R₂) (fun _ s₄ p51 => Post.el p51 fun _ H₂ q _ R₃ k₃ => ?_) fun _ _ e => e.elim
    refine wpAny_mono (q s₄ R₃) (fun f s₅ p52 => Post.el p52 fun fl H₃ q₃ rf R₄ k₄ => ?_) fun _ _ e => e.elim
    have kk := k₃.trans k₄
    have hJ₅ : J (i + 1) s₅.heap := S.frame _ _ _ hJ' (kk.fz R₂) fun b hb o e => (kk b o (hf₁ b hb) e).1
    have hf₅ : ∀ b ∈ fp, b ∉ keys H₃ := fun b hb => let ⟨o, e⟩ := S.live _ _ hJ' b hb; (kk b o (hf₁ b hb) e).2
    have kb₅ : KB wr H s H₃ s₅ := fun b o nf n e => let ⟨e', n'⟩ := kb₂ b o nf n e; kk b o n' e'
    have out := R₄.unhide fun p hp q => hf₅ _ (S.sub _ (hl _ q)) (List.mem_map_of_mem hp)
    cases fl with
    | next => cases rf; exact ⟨N + 1 - (i + 1), by omega, i + 1, H₃, rfl, hlt, q₃, R₄, hJ₅, hf₅, kb₅⟩
    | cont => cases rf; exact ⟨N + 1 - (i + 1), by omega, i + 1, H₃, rfl, hlt, q₃, R₄, hJ₅, hf₅, kb₅⟩
    | brk => cases rf; exact ⟨.next, H₃, q₃, rfl, out, kb₅⟩
    | ret u => obtain ⟨w, rfl, rw⟩ := rf; exact ⟨.ret u, H₃, q₃, ⟨w, rfl, rw.chg unhide_t⟩, out, kb₅⟩
  · refine wpAny_mono (S.done i H₁ s₁ hJ₁ R₁ hf₁ hit) (fun r s₂ h₂ => ?_) fun _ _ e => e.elim
    obtain ⟨rfl, h', tk, rfl, k⟩ := h₂
    have R₂ : Rel C H₁ { s₁ with heap := h', toks := tk } := R₁.butUnhide (fun b hb => hf₁ b (S.sub b hb)) hB hX (fun p hp q => hf₁ _ (S.sub _ (hl _ q)) (List.mem_map_of_mem hp)) (fun b hb => S.nofz i _ hJ₁ b hb) k
    refine wpAny_mono (hw _ R₂) (fun f s₅ p53 => Post.el p53 fun fl H₃ q₃ rf R₄ k₄ => ?_) fun _ _ e => e.elim
    refine ⟨fl, H₃, q₃, rf, R₄, fun b o nf n e => ?_⟩
    obtain ⟨e', n'⟩ := kb b o nf n e
    exact k₄ b o n' (k b o nf e')

/-- an iterator made of a value: its own objects are new, some of them hidden -/
noncomputable def ItPost (C : Cfg) (A : Around) (target : Expr) (Q : Cfg → (Nat → AH → Option V → Prop) → AH → Prop) (H : AH) (s : Shared) (it : Value) (s' : Shared) : Prop :=
  ∃ l fp wr J Item H', Q (C.hide l) Item H' ∧ Src (C.hide l) A target it fp wr J Item ∧ J 0 s'.heap ∧ (∀ b ∈ fp, b ∉ keys H') ∧ (∀ b ∈ wr, C.B.get? b = none ∧ (b ∈ keys H ∨ s.heap.get? b = none)) ∧ (∀ b ∈ l, b ∈ wr) ∧ Rel (C.hide l) H' s' ∧ Kept H s H' s'
noncomputable def WPI (C : Cfg) (A : Around) (env : Env) (iter target : Expr) (Q : Cfg → (Nat → AH → Option V → Prop) → AH → Prop) (H : AH) : Prop :=
  ∀ s, Rel C H s → wpAny (model C.prog C.w) A (eval iter env) (fun v s₁ => wpAny (model C.prog C.w) A (pyIter v) (ItPost C A target Q H s) NoE s₁) NoE s


theorem wp1_For {iter : Expr} (h : WPI C A env iter target (fun C' Item H₁ => ForTurns C C' A env target body orelse QF Item H₁) H) (hs : ∀ x, foldedSetIterable iter env x = pure x := by intro _; with_unfolding_all rfl) :
    WP1 C A env (.For target iter body orelse pos) QF H := fun s R => by
  refine wpAny_For (hs := hs) (wpAny_mono (h s R) (fun v s₁ h₁ => wpAny_mono h₁ (fun it s₂ h₂ => ?_) fun _ _ e => e.elim) fun _ _ e => e.elim)
  obtain ⟨l, fp, wr, J, Item, H₂, T, S, hJ, hk, hn, hl, R₂, k₂⟩ := h₂
  have hX : ∀ b ∈ wr, b ∉ C.X := fun b hb q => by
    obtain ⟨n, o, e⟩ := R.xl b q
    rcases (hn b hb).2 with h | h
    · exact n h
    · rw [h] at e; cases e
  refine codeAny_mono (forLoop_gen S R₂ hJ hk (fun b hb => (hn b hb).1) hX hl T) fun r s₃ h₃ => ?_
  cases r with
  | error e => exact h₃.elim
  | ok f =>
    obtain ⟨fl, H₃, q, rf, R₃, kb⟩ := h₃
    refine ⟨fl, H₃, q, rf, R₃, fun b o n e => ?_⟩
    obtain ⟨e₂, n₂⟩ := k₂ b o n e
    exact kb b o (fun q => by rcases (hn b q).2 with h | h; exact n h; rw [h] at e; cases e) n₂ e₂

/-- an iterator of a value -/
noncomputable def PI (C : Cfg) (A : Around) (target : Expr) (x : V) (Q : Cfg → (Nat → AH → Option V → Prop) → AH → Prop) (H : AH) : Prop :=
  ∀ v s, VRel C.X s.heap x v → Rel C H s → wpAny (model C.prog C.w) A (pyIter v) (ItPost C A target Q H s) NoE s
theorem ItPost.then {QI : Cfg → (Nat → AH → Option V → Prop) → AH → Prop} {s s₁ s₂ : Shared} {H₁ : AH} (k : Kept H s H₁ s₁) (h : ItPost C A target QI H₁ s₁ it s₂) : ItPost C A target QI H s it s₂ := by
  obtain ⟨l, fp, wr, J, Item, H', a1, a2, a3, a4, a5, a6, a7, a8⟩ := h
  refine ⟨l, fp, wr, J, Item, H', a1, a2, a3, a4, fun b hb => ⟨(a5 b hb).1, ?_⟩, a6, a7, k.trans a8⟩
  by_cases n : b ∈ keys H
  · exact .inl n
  · cases e : s.heap.get? b with
    | none => exact .inr rfl
    | some o =>
      obtain ⟨e', n'⟩ := k b o n e
      rcases (a5 b hb).2 with h | h
      · exact absurd h n'
      · rw [h] at e'; cases e'

theorem wpi_value {iter : Expr} {QI : Cfg → (Nat → AH → Option V → Prop) → AH → Prop} (h : WP C A (VRel C.X) (eval iter env) (fun x H₁ => PI C A target x QI H₁) H) : WPI C A env iter target QI H := fun s R =>
  wpAny_mono (h s R) (fun v s₁ p54 => Post.el p54 fun x H₁ q rv R₁ k => wpAny_mono (q v s₁ rv R₁) (fun _ _ p => p.then k) fun _ _ e => e) fun _ _ e => e
/-- a call whose result is walked at once -/
noncomputable def CI (C : Cfg) (A : Around) (target : Expr) (f : V) (args : List V) (Q : Cfg → (Nat → AH → Option V → Prop) → AH → Prop) (H : AH) : Prop :=
  ∀ fv avs s, VRel C.X s.heap f fv → VsRel C.X s.heap args avs → Rel C H s → KeepsOk (model C.prog C.w) A fv s ∧ wpAny (model C.prog C.w) A (call fv avs) (fun v s₁ => wpAny (model C.prog C.w) A (pyIter v) (ItPost C A target Q H s) NoE s₁) NoE s
theorem wpi_Call {x : Str} {np : Pos} {es : List Expr} {QI : Cfg → (Nat → AH → Option V → Prop) → AH → Prop}
    (h : WP C A (VRel C.X) (eval (.Name x np) env) (fun f H₁ => WPG C A env pos es (fun xs H₂ => CI C A target f xs QI H₂) H₁) H) : WPI C A env (.Call (.Name x np) es [] pos) target QI H := fun s R =>
  wpAny_Call_ofName (wpAny_mono (h s R) (fun fv s₁ p55 => Post.el p55 fun f H₁ q rf R₁ k => callWith_K q.1 (wpAny_mono (q.2 fv s₁ R₁) (fun a s₂ p56 => Post.el p56 fun xs H₂ q₂ p57 R₂ k₂ => p57.elim fun hk ra => by
    obtain ⟨h1, h2⟩ := q₂ fv a.pos s₂ (rf.fz (k₂.fz R₁)) ra R₂
    exact ⟨hk, h1, wpAny_mono h2 (fun _ _ p => wpAny_mono p (fun _ _ p => p.then (k.trans k₂)) fun _ _ e => e) fun _ _ e => e⟩) fun _ _ e => e)) fun _ _ e => e)

-- the sources
noncomputable def listItem (l : Addr) : Nat → AH → Option V → Prop := fun i H r => ∃ vs, (l, AO.list vs) ∈ H ∧ r = vs[i]?
theorem notFrozen_cls {X : List Addr} {a : Addr} {o : Obj} {T : String} (h : o.cls = .type T) (h1 : T ≠ "tuple") (h2 : T ≠ "code") : ¬ Frozen X a o := by
  rintro (⟨_, e, _⟩ | ⟨e, _⟩)
  · rw [h] at e; exact h1 (Value.type.inj e)
  · rw [h] at e; exact h2 (Value.type.inj e)
theorem PlainList.isList {h : Heap} {a : Addr} {items : Array Value} (x : h.PlainList a items) : h.IsList a items := let ⟨n, e⟩ := x; ⟨_, e, rfl, n, rfl⟩
theorem src_list {I l : Addr} (hA : A.handled = none) (hne : l ≠ I) (htup : ∀ (s : Shared) (i : Nat) (v : Value) (P : Unit → Shared → Prop), s.heap.IsListIter I l i → P () s → wpAny (model C.prog C.w) A (letOwnedTupleGo target (.ref I) v) P NoE s) :
    Src C A target (.ref I) [I] [I] (fun i h => h.IsListIter I l i) (listItem l) where
  sub := fun b h => h
  nofz := fun i h ⟨o, e, c, _⟩ b hb o' e' => by
    rw [List.mem_singleton.mp hb, e] at e'; cases e'; exact notFrozen_cls c (by decide) (by decide)
  live := fun i h ⟨o, e, _⟩ b hb => ⟨o, by rw [List.mem_singleton.mp hb]; exact e⟩
  frame := fun i h h' x _ k => x.at fun o e => k I (.head _) o e
  self := fun i s h => wpAny_pyIter_listiter h ⟨rfl, rfl⟩
  item := fun i H s x hJ R hf ⟨vs, hm, hx⟩ => by
    obtain ⟨items, pl, rv⟩ := R.objs _ hm
    obtain ⟨v, hv, rx⟩ := rv.get hx.symm
    refine wpAny_pyNext_list_item hJ (PlainList.isList pl) (by simpa using hv) fun h' hit' hs' => ⟨v, rfl, htup _ _ _ _ hit' ⟨h', s.toks, rfl, ?_, hit', fun b o n e => hs'.extBut b o (fun q => n (by simp [q])) e⟩⟩
    exact rx.fz fun a o e f => hs'.extBut a o (fun q => by
      obtain ⟨o', e', c, _⟩ := hJ
      rw [q, e'] at e; cases e
      exact notFrozen_cls c (by decide) (by decide) f) e
  done := fun i H s hJ R hf ⟨vs, hm, hx⟩ => by
    obtain ⟨items, pl, rv⟩ := R.objs _ hm
    have hz := rv.length
    have hlen := List.getElem?_eq_none_iff.mp hx.symm
    exact wpAny_pyNext_list_end hA hJ (PlainList.isList pl) (by rw [Array.getElem?_eq_none_iff, ← Array.length_toList, hz]; exact hlen) fun h' hs' => ⟨rfl, h', s.toks, rfl, fun b o n e => hs' b o (fun q => n (by simp [q])) e⟩

theorem letGo_skip {I : Addr} {o : Obj} {T : String} {vs : Array Value} {v : Value} {s : Shared} {P : Unit → Shared → Prop} {M : Model} {E : Value → Shared → Prop} (ho : s.heap.get? I = some o) (hc : o.cls = .type T) (hd : o.data = .fields vs)
    (hn : ["enumerate", "zip", "dict_itemiterator", "dict_reverseitemiterator", "odict_iterator", "itertools.zip_longest", "itertools.pairwise"].contains T = false) (h : P () s) : wpAny M A (letOwnedTupleGo target (.ref I) v) P E s := by
  have key : ∀ a, wpAny M A (do
      let o ← load I
      match o.cls, o.data with
      | .type n, .fields vs =>
        if (["enumerate", "zip", "dict_itemiterator", "dict_reverseitemiterator", "odict_iterator", "itertools.zip_longest", "itertools.pairwise"].contains n && vs[0]? == some (rawInt a)) = true then
          rule "for.unpacks-the-owned-tuple"
          updateField I 0 .none
        else pure ()
      | _, _ => pure () : Sem Unit) P E s := fun a => by
    refine wpAny_bind (wpAny_load ho ?_)
    rw [hc, hd]
    simp only [hn, Bool.false_and, Bool.false_eq_true, if_false]
    exact wpAny_pure h
  unfold letOwnedTupleGo
  cases target <;> first
    | exact wpAny_pure h
    | (cases v <;> first
        | exact wpAny_pure h
        | exact key _)

variable {QI : Cfg → (Nat → AH → Option V → Prop) → AH → Prop}
theorem pi_list {l : Addr} {vs : List V} (hA : A.handled = none) (hl : (l, AO.list vs) ∈ H) (q : QI C (listItem l) H) : PI C A target (.ref l) QI H := fun v s rv R => by
  simp only [VRel] at rv; subst rv
  obtain ⟨items, pl, rvs⟩ := R.objs _ hl
  have hlt : l < s.heap.objs.size := by obtain ⟨n, e⟩ := pl; exact Heap.lt_size e
  refine wpAny_pyIter_list (PlainList.isList pl) ?_
  have ext : ∀ b o, s.heap.get? b = some o → (s.heap.push { cls := .type "list_iterator", data := .fields #[.ref l, .int 0 0] }).get? b = some o := fun b o e => Heap.get?_push_of_some _ e
  exact ⟨[], _, _, _, _, H, q, src_list (C := C) hA (Nat.ne_of_lt hlt) (fun s' i v' P hit hp => let ⟨o, ho, hc, hd⟩ := hit; letGo_skip ho hc hd (by decide) hp), ⟨_, Heap.get?_push_size _ rfl, rfl, rfl⟩,
    fun b hb => by rw [List.mem_singleton.mp hb]; exact R.newAddr, fun b hb => by rw [List.mem_singleton.mp hb]; exact ⟨R.baseNew (Nat.le_refl _), .inr (Heap.get?_none_of_le (Nat.le_refl _))⟩, fun b hb => (nomatch hb), R.ext (t := s.toks) ext, kept_of_ext (t := s.toks) ext⟩

/-- a source that is its own one object -/
noncomputable def fnItem (n : Nat) (f : Nat → V) : Nat → AH → Option V → Prop := fun i _ r => r = if i < n then some (f i) else none
theorem src_walks {I : Addr} {n : Nat} {P : Nat → Value → Prop} {St : Nat → Heap → Prop} {f : Nat → V} {T : String} (W : Walks C.prog C.w A I [I] [I] n P St) (hP : ∀ i v h, P i v → VRel C.X h (f i) v)
    (hS : ∀ i h, St i h → ∃ o vs, h.get? I = some o ∧ o.cls = .type T ∧ o.data = .fields vs) (h1 : T ≠ "tuple") (h2 : T ≠ "code")
    (hn : ["enumerate", "zip", "dict_itemiterator", "dict_reverseitemiterator", "odict_iterator", "itertools.zip_longest", "itertools.pairwise"].contains T = false) :
    Src C A target (.ref I) [I] [I] (fun i h => i ≤ n ∧ St i h) (fnItem n f) where
  sub := fun b h => h
  nofz := fun i h ⟨_, st⟩ b hb o' e' => by
    obtain ⟨o, vs, e, c, _⟩ := hS i h st
    rw [List.mem_singleton.mp hb, e] at e'; cases e'; exact notFrozen_cls c h1 h2
  live := fun i h ⟨_, st⟩ b hb => let ⟨o, vs, e, _⟩ := hS i h st; ⟨o, by rw [List.mem_singleton.mp hb]; exact e⟩
  frame := fun i h h' ⟨hi, st⟩ _ k => ⟨hi, W.frame i h h' st k⟩
  self := fun i s ⟨hi, st⟩ => W.self i s _ _ st ⟨rfl, rfl⟩
  item := fun i H s x ⟨hi, st⟩ R hf hx => by
    have hlt : i < n := Nat.lt_of_not_le fun q => by rw [fnItem, if_neg (by omega)] at hx; cases hx
    rw [fnItem, if_pos hlt] at hx; cases hx
    refine W.item i s _ _ hlt st fun v h' tk p st' k => ⟨v, rfl, ?_⟩
    obtain ⟨o, vs, e, c, d⟩ := hS _ h' st'
    exact letGo_skip (s := { s with heap := h', toks := tk }) e c d hn ⟨h', tk, rfl, hP i v h' p, ⟨hlt, st'⟩, k⟩
  done := fun i H s ⟨hi, st⟩ R hf hx => by
    have hge : ¬ i < n := fun q => by rw [fnItem, if_pos q] at hx; cases hx
    obtain rfl : i = n := by omega
    exact W.done s _ _ st fun h' tk k => ⟨rfl, h', tk, rfl, k⟩

theorem itPost_one {s : Shared} {o : Obj} {J : Nat → Heap → Prop} {Item : Nat → AH → Option V → Prop} {h₀ : Heap} {tk : Tok} (R : Rel C H s) (k₀ : ∀ b o, s.heap.get? b = some o → h₀.get? b = some o) (hz : s.heap.objs.size ≤ h₀.objs.size)
    (S : Src C A target (.ref h₀.objs.size) [h₀.objs.size] [h₀.objs.size] J Item) (hJ : J 0 (h₀.push o)) (q : QI C Item H) :
    ItPost C A target QI H s (.ref h₀.objs.size) { s with heap := h₀.push o, toks := tk } := by
  have ext : ∀ b o', s.heap.get? b = some o' → (h₀.push o).get? b = some o' := fun b o' e => Heap.get?_push_of_some _ (k₀ b o' e)
  exact ⟨[], _, _, J, Item, H, q, S, hJ,
    fun b hb => by rw [List.mem_singleton.mp hb]; exact fun h => absurd (R.lt h) (Nat.not_lt.mpr hz), fun b hb => by rw [List.mem_singleton.mp hb]; exact ⟨R.baseNew hz, .inr (Heap.get?_none_of_le hz)⟩,
    fun b hb => (nomatch hb), R.ext ext, kept_of_ext ext⟩

noncomputable def rangeLen (a b c : Int) : Nat := (Builtin.Range.rangeSize a b c).toNat
noncomputable abbrev rangeItem (a b c : Int) := fnItem (rangeLen a b c) (fun i => .int (a + i * c))
theorem rangeSize_nonneg {a b c : Int} (hc : c ≠ 0) : 0 ≤ Builtin.Range.rangeSize a b c := by
  unfold Builtin.Range.rangeSize
  split <;> split
  · have := Int.ediv_nonneg (a := b - a - 1) (b := c) (by omega) (by omega); omega
  · omega
  · have := Int.ediv_nonneg (a := a - b - 1) (b := -c) (by omega) (by omega); omega
  · omega
theorem iter_range {s s₀ : Shared} {r : Addr} {a b c : Int} {t u v : Tok} (hA : A.handled = none) (hc : c ≠ 0) (hsm : Builtin.Range.small a b c = true) (R : Rel C H s₀)
    (k₀ : ∀ b o, s₀.heap.get? b = some o → s.heap.get? b = some o) (hz : s₀.heap.objs.size ≤ s.heap.objs.size) (hs : ∃ h tk, s = { s₀ with heap := h, toks := tk }) (hr : IsRange s.heap r a b c t u v) (q : QI C (rangeItem a b c) H) :
    wpAny (model C.prog C.w) A (pyIter (.ref r)) (ItPost C A target QI H s₀) NoE s := by
  obtain ⟨h, tk, rfl⟩ := hs
  refine wpAny_pyIter_range hr hsm ?_
  have hn : ((rangeLen a b c : Nat) : Int) = Builtin.Range.rangeSize a b c := Int.toNat_of_nonneg (rangeSize_nonneg hc)
  have W := Walks.range (prog := C.prog) (w := C.w) hA h.objs.size a c (rangeLen a b c)
  refine itPost_one (o := { cls := .type "range_iterator", data := .fields #[rawInt a, rawInt (Builtin.Range.rangeSize a b c), rawInt c] }) R k₀ hz (src_walks (T := "range_iterator") (f := fun i => .int (a + i * c)) W (fun i v h ⟨t, e⟩ => by simp only [VRel]; exact ⟨t, e⟩) (fun i h st => ⟨_, _, st, rfl, rfl⟩) (by decide) (by decide) (by decide)) ⟨Nat.zero_le _, ?_⟩ q
  have := Heap.get?_push_size h (o := { cls := .type "range_iterator", data := .fields #[rawInt a, rawInt (Builtin.Range.rangeSize a b c), rawInt c] }) rfl
  show (h.push _).get? _ = _
  rw [this, hn]
  simp
end
end
noncomputable section
theorem Pick.mem {p : Addr × AO} {H H' : AH} (x : Pick p H H') : p ∈ H := by
  induction x with
  | head => exact .head _
  | tail _ ih => exact .tail _ ih
theorem Sub.of_pick {p : Addr × AO} {H H' : AH} (x : Pick p H H') : Sub H' H := by
  induction x with
  | head => exact .drop (.refl _)
  | tail _ ih => exact .pick .head ih

section
variable {C C' : Cfg} {gl : List (Str × V)} {A : Around} {env : Env} {pos : Pos} {test : Expr} {body orelse : List Stmt} {H H' : AH} {Q : V → AH → Prop} {QF : Fl → AH → Prop} {QB : Bool → AH → Prop}

/-- while: I at i turns done; at most N turns -/
theorem wp1_While (I : Nat → AH → Prop) (N : Nat) (h0 : I 0 H)
    (h : ∀ i H₁, i ≤ N → I i H₁ → WPB C A env test (fun t H₂ => (t = true → i < N ∧ WPS C A env body (TurnEnd (I (i + 1)) QF) H₂) ∧ (t = false → WPS C A env orelse QF H₂)) H₁) :
    WP1 C A env (.While test body orelse pos) QF H := fun s R => by
  refine wpAny_While (codeAny_mono (codeAny_whileLoop (R := fun r s' => match r with
      | .ok f => Post C (FRel C.X) QF H s f s' | .error e => False)
    (fun n s' => ∃ i H₁, n = N + 1 - i ∧ i ≤ N ∧ I i H₁ ∧ Rel C H₁ s' ∧ Kept H s H₁ s') ?_ (N + 1) ⟨0, H, rfl, Nat.zero_le _, h0, R, Kept.refl _ _⟩) fun r s₃ h₃ => ?_)
  · rintro n s₁ ⟨i, H₁, rfl, hi, hI, R₁, k₁⟩
    refine wpAny_mono (h i H₁ hi hI s₁ R₁) (fun b s₂ p69 => Post.el p69 fun t H₂ q rt R₂ k₂ => ?_) fun _ _ e => e.elim
    cases rt
    cases b with
    | false => exact wpAny_mono (q.2 rfl s₂ R₂) (fun f s₃ p => post_then k₁ (post_then k₂ p)) fun _ _ e => e.elim
    | true =>
      obtain ⟨hlt, hw⟩ := q.1 rfl
      refine wpAny_mono (hw s₂ R₂) (fun f s₃ p70 => Post.el p70 fun fl H₃ q₃ rf R₃ k₃ => ?_) fun _ _ e => e.elim
      have kk := k₁.trans (k₂.trans k₃)
      cases fl with
      | next => cases rf; exact ⟨N + 1 - (i + 1), by omega, i + 1, H₃, rfl, hlt, q₃, R₃, kk⟩
      | cont => cases rf; exact ⟨N + 1 - (i + 1), by omega, i + 1, H₃, rfl, hlt, q₃, R₃, kk⟩
      | brk => cases rf; exact ⟨.next, H₃, q₃, rfl, R₃, kk⟩
      | ret u => obtain ⟨w, rfl, rw⟩ := rf; exact ⟨.ret u, H₃, q₃, ⟨w, rfl, rw⟩, R₃, kk⟩
  · cases r with
    | error e => exact h₃.elim
    | ok f => exact h₃

-- list comprehensions
theorem compLoop_tests {elt target iter : Expr} {ifs : List Expr} {scope : Scope} {pos : Pos} {it acc : Value} {env : Env} {prog : Program} {w : World} {R : Result → Shared → Prop} {s : Shared} (I : Nat → Shared → Prop)
    (turn : ∀ n s, I n s → wpAny (model prog w) A (pyNext it) (fun r s₁ => match r with
      | none => R (.ok .next) s₁
      | some v => wpAny (model prog w) A (letOwnedTupleGo target it v) (fun _ s₁ => wpAny (model prog w) A (assign target env v) (fun _ s₂ =>
          wpAny (model prog w) A (forIn ifs true fun c r => if r = true then do let ok ← isTrue c env (eval c env); pure (ForInStep.yield ok) else pure (ForInStep.yield r)) (fun ok s₃ =>
            if ok = true then wpAny (model prog w) A (eval elt env) (fun x s₄ =>
              wpAny (model prog w) A (call (.builtin "list.append") [acc, x]) (fun _ s₅ => ∃ m, m < n ∧ I m s₅) NoE s₄) NoE s₃
            else ∃ m, m < n ∧ I m s₃) NoE s₂) NoE s₁) NoE s₁) NoE s)
    (n : Nat) (h : I n s) :
    codeAny (model prog w) A (.compLoop (.ListComp elt [⟨target, iter, ifs, 0⟩] scope pos) 0 it acc env) R s := by
  refine codeAny_loop rfl I (fun n s hI => ?_) n h
  show wpAny _ A ((compTurn (.ListComp elt [⟨target, iter, ifs, 0⟩] scope pos) 0 it acc env).onRaise (fun x => do noteFrame x env; theTreesLotGoes x)) _ _ s
  refine wpAny_noted ?_
  rw [compTurn_list]
  refine wpAny_bind (wpAny_standAt (wpAny_bind (wpAny_mono (turn n s hI) (fun r s₁ h₁ => ?_) fun _ _ h' => h'.elim)))
  cases r with
  | none => exact wpAny_pure h₁
  | some v =>
    refine wpAny_bind (wpAny_mono h₁ (fun _ s₂ h₁ => ?_) fun _ _ h' => h'.elim)
    refine wpAny_bind (wpAny_mono h₁ (fun _ s₂ h₂ => wpAny_bind (wpAny_mono h₂ (fun ok s₃ h₃ => ?_) fun _ _ h' => h'.elim)) fun _ _ h' => h'.elim)
    cases ok with
    | false => exact wpAny_pure ⟨rfl, h₃⟩
    | true =>
      exact wpAny_bind (wpAny_bind (wpAny_mono h₃ (fun x s₄ h₄ => wpAny_bind (wpAny_mono h₄ (fun _ s₅ h₅ => wpAny_pure (wpAny_pure ⟨rfl, h₅⟩)) fun _ _ h' => h'.elim)) fun _ _ h' => h'.elim))

/-- a comprehension's tests -/
noncomputable abbrev WPT (C : Cfg) (A : Around) (env : Env) (ifs : List Expr) (Q : Bool → AH → Prop) (H : AH) : Prop :=
  WP C A BRel (forIn ifs true fun c r => if r = true then do let ok ← isTrue c env (eval c env); pure (ForInStep.yield ok) else pure (ForInStep.yield r)) Q H
theorem wpt_nil (h : QB true H) : WPT C A env [] QB H := fun _ R => wpAny_tests_nil (post_id R rfl h)
theorem wpt_one {c : Expr} (h : WPB C A env c QB H) : WPT C A env [c] QB H := fun s R => wpAny_tests_one (h s R)

noncomputable def CompTurns (C C' : Cfg) (A : Around) (cenv : Env) (target : Expr) (ifs : List Expr) (elt : Expr) (a : Addr) (Item : Nat → AH → Option V → Prop) (Fin : List V → AH → Prop) (H : AH) : Prop :=
  ∃ (I : Nat → List V → AH → Prop) (N : Nat), I 0 [] H ∧ ∀ i acc H₁, i ≤ N → I i acc H₁ →
    (∃ x, i < N ∧ Item i H₁ (some x) ∧ WPA C' A cenv target x (fun _ H₂ => WPT C' A cenv ifs (fun ok H₃ =>
      (ok = true → WP C' A (VRel C'.X) (eval elt cenv) (fun y H₄ => acc.length ≤ 100000 ∧ ∃ H₅, Upd a (.list acc) (.list (acc ++ [y])) H₄ H₅ ∧ I (i + 1) (acc ++ [y]) H₅) H₃) ∧
      (ok = false → I (i + 1) acc H₃)) H₂) H₁) ∨ (Item i H₁ none ∧ Fin acc H₁)

theorem compLoop_gen {elt target iter : Expr} {ifs : List Expr} {scope : Scope} {it : Value} {a : Addr} {Item : Nat → AH → Option V → Prop} {fp wr : List Addr} {J : Nat → Heap → Prop} {s : Shared} {l : List Addr} {Fin : List V → AH → Prop}
    (S : Src (C.hide l) A target it fp wr J Item) (R : Rel (C.hide l) H s) (hJ : J 0 s.heap) (hfp : ∀ b ∈ fp, b ∉ keys H) (hB : ∀ b ∈ wr, C.B.get? b = none) (hX : ∀ b ∈ wr, b ∉ C.X) (hl : ∀ b ∈ l, b ∈ wr)
    (T : CompTurns C (C.hide l) A env target ifs elt a Item Fin H) :
    codeAny (model C.prog C.w) A (.compLoop (.ListComp elt [⟨target, iter, ifs, 0⟩] scope pos) 0 it (.ref a) env) (fun r s' => r = .ok .next ∧ ∃ acc H', Fin acc H' ∧ Rel C H' s' ∧ KB wr H s H' s') s := by
  obtain ⟨I, N, h0, turn⟩ := T
  refine compLoop_tests (fun n s' => ∃ i acc H₁, n = N + 1 - i ∧ i ≤ N ∧ I i acc H₁ ∧ Rel (C.hide l) H₁ s' ∧ J i s'.heap ∧ (∀ b ∈ fp, b ∉ keys H₁) ∧ KB wr H s H₁ s') ?_ (N + 1)
    ⟨0, [], H, rfl, Nat.zero_le _, h0, R, hJ, hfp, fun b o _ n e => ⟨e, n⟩⟩
  rintro n s₁ ⟨i, acc, H₁, rfl, hi, hI, R₁, hJ₁, hf₁, kb⟩
  rcases turn i acc H₁ hi hI with ⟨x, hlt, hit, hw⟩ | ⟨hit, hw⟩
  · refine wpAny_mono (S.item i H₁ s₁ x hJ₁ R₁ hf₁ hit) (fun r s₂ h₂ => ?_) fun _ _ e => e.elim
    obtain ⟨v, rfl, h₂⟩ := h₂
    refine wpAny_mono h₂ (fun _ s₃ h₃ => ?_) fun _ _ e => e.elim
    obtain ⟨h', tk, rfl, rv, hJ', k⟩ := h₃
    have R₂ : Rel (C.hide l) H₁ { s₁ with heap := h', toks := tk } := R₁.but (fun b hb => hf₁ b (S.sub b hb)) hB (fun b hb => S.nofz i _ hJ₁ b hb) (fun b hb => S.live _ _ hJ' b (S.sub b hb)) k
    have kb₂ : KB wr H s H₁ { s₁ with heap := h', toks := tk } := fun b o nf n e => let ⟨e', n'⟩ := kb b o nf n e; ⟨k b o nf e', n'⟩
    have fin : ∀ acc' H₃ s₅, I (i + 1) acc' H₃ → Rel (C.hide l) H₃ s₅ → Kept H₁ { s₁ with heap := h', toks := tk } H₃ s₅ →
        ∃ m, m < N + 1 - i ∧ ∃ i acc H₁, m = N + 1 - i ∧ i ≤ N ∧ I i acc H₁ ∧ Rel (C.hide l) H₁ s₅ ∧ J i s₅.heap ∧ (∀ b ∈ fp, b ∉ keys H₁) ∧ KB wr H s H₁ s₅ := fun acc' H₃ s₅ q₃ R₄ kk =>
      ⟨N + 1 - (i + 1), by omega, i + 1, acc', H₃, rfl, hlt, q₃, R₄, S.frame _ _ _ hJ' (kk.fz R₂) fun b hb o e => (kk b o (hf₁ b hb) e).1,
        fun b hb => let ⟨o, e⟩ := S.live _ _ hJ' b hb; (kk b o (hf₁ b hb) e).2, fun b o nf n e => let ⟨e', n'⟩ := kb₂ b o nf n e; kk b o n' e'⟩
    refine wpAny_mono (hw v _ rv R₂) (fun _ s₄ p71 => Post.el p71 fun _ H₂ q _ R₃ k₃ => ?_) fun _ _ e => e.elim
    refine wpAny_mono (q s₄ R₃) (fun ok s₅ p72 => Post.el p72 fun t H₃ q₃ rt R₄ k₄ => ?_) fun _ _ e => e.elim
    cases rt
    cases ok with
    | false => exact fin _ _ _ (q₃.2 rfl) R₄ (k₃.trans k₄)
    | true =>
      simp only [if_true]
      refine wpAny_mono (q₃.1 rfl s₅ R₄) (fun y s₆ ⟨y', H₄, ⟨hz, H₅, hu, q₅⟩, ry, R₅, k₅⟩ => ?_) fun _ _ e => e.elim
      obtain ⟨items, pl, rvs⟩ := R₅.objs _ hu.mem
      have hlen := rvs.length
      refine wpAny_list_append_plain pl (fun h₆ pl' hs' => ?_) (by rw [← Array.length_toList, hlen, sizeLine_eq]; omega)
      have hak : a ∈ keys H₄ := List.mem_map_of_mem (f := Prod.fst) hu.mem
      have hf : Fz (C.hide l).X s₆.heap h₆ := fun b o e f => hs'.extBut b o (fun q => R₅.notin e f (q ▸ hak)) e
      obtain ⟨R₆, k₆⟩ := R₅.upd hu (h' := h₆) (t := s₆.toks) (fun b o n e => hs'.extBut b o n e) ⟨_, pl', by rw [Array.toList_push]; exact (rvs.fz hf).append (.cons (ry.fz hf) .nil)⟩
      exact fin _ _ _ q₅ R₆ (((k₃.trans k₄).trans k₅).trans k₆)
  · refine wpAny_mono (S.done i H₁ s₁ hJ₁ R₁ hf₁ hit) (fun r s₂ h₂ => ?_) fun _ _ e => e.elim
    obtain ⟨rfl, h', tk, rfl, k⟩ := h₂
    have R₂ : Rel C H₁ { s₁ with heap := h', toks := tk } := R₁.butUnhide (fun b hb => hf₁ b (S.sub b hb)) hB hX (fun p hp q => hf₁ _ (S.sub _ (hl _ q)) (List.mem_map_of_mem hp)) (fun b hb => S.nofz i _ hJ₁ b hb) k
    exact ⟨rfl, acc, H₁, hw, R₂, fun b o nf n e => let ⟨e', n'⟩ := kb b o nf n e; ⟨k b o nf e', n'⟩⟩

theorem pick_nd {p : Addr × AO} {H H' : AH} (x : Pick p H H') (nd : (keys H).Nodup) : p.1 ∉ keys H' := by
  have h := (x.perm.map Prod.fst).nodup_iff.mp nd
  exact (List.nodup_cons.mp (by simpa using h)).1

theorem Rel.butX {s : Shared} (R : Rel C H s) {wr : List Addr} (hk : ∀ b ∈ wr, b ∉ keys H) (hB : ∀ b ∈ wr, C.B.get? b = none) (hfz : ∀ b ∈ wr, ∀ o, s.heap.get? b = some o → ¬ Frozen C.X b o) {h' : Heap} {t : Tok}
    (hl : ∀ b ∈ wr, b ∉ C.X) (k : ∀ b o, b ∉ wr → s.heap.get? b = some o → h'.get? b = some o) : Rel C H { s with heap := h', toks := t } where
  keep := fun b o e => k b o (fun q => by rw [hB b q] at e; cases e) (R.keep b o e)
  gens := R.gens
  os := R.os
  nd := R.nd
  fresh := R.fresh
  objs := fun p hp => (R.objs p hp).move (fun a o e f => k a o (fun q => hfz a q o e f) e) fun o e => k _ o (fun q => hk _ q (List.mem_map_of_mem hp)) e
  xl := fun a ha => by
    obtain ⟨n, o, e⟩ := R.xl a ha
    exact ⟨n, o, k a o (fun q => hl a q ha) e⟩

/-- a comprehension's own frame goes -/
theorem comp_go {s : Shared} {cn : Addr} {ln : List Str} {vals : List (Option V)} {H₁ H₂ : AH} (R : Rel C H₁ s) (p : Pick (cn, .ns ln vals) H₁ H₂) {h' : Heap} (hs : Heap.SameBut cn s.heap h') :
    Rel C H₂ { s with heap := h' } ∧ Kept H₁ s H₂ { s with heap := h' } := by
  have R₂ := R.sub (Sub.of_pick p)
  have hk := pick_nd p R.nd
  refine ⟨R₂.butX (wr := [cn]) (t := s.toks) (fun b hb => by rw [List.mem_singleton.mp hb]; exact hk) (fun b hb => by rw [List.mem_singleton.mp hb]; exact R.fresh _ p.mem) (fun b hb o e => ?_) (fun b hb => ?_) fun b o n e => hs.extBut b o (fun q => n (by simp [q])) e, fun b o n e => ?_⟩
  · rw [List.mem_singleton.mp hb] at e ⊢
    obtain ⟨o', e', n⟩ := (R.objs _ p.mem).live
    simp only [] at e'
    rw [e] at e'; cases e'; exact n
  · rw [List.mem_singleton.mp hb]
    exact fun q => (R.xl _ q).1 (List.mem_map_of_mem (f := Prod.fst) p.mem)
  · have hne : b ≠ cn := fun q => n (q ▸ List.mem_map_of_mem (f := Prod.fst) p.mem)
    exact ⟨hs.extBut b o hne e, fun h => n ((Sub.of_pick p).kmem h)⟩

theorem nones_rel {X : List Addr} {h : Heap} {m : Str → Option Value} : ∀ {ln : List Str}, NsRel X h m ln (ln.map fun _ => none)
  | [] => rfl
  | _ :: ln => ⟨none, _, rfl, fun _ e => (nomatch e), nones_rel⟩

theorem comp_gen {elt target iter : Expr} {ifs : List Expr} {scope : Scope} {cl : List (Str × Addr)} {use : Option (Value → Sem Unit)} {ln : List Str} {Fin : Addr → Addr → List V → AH → Prop} {QQ : Value → Shared → Prop} {s : Shared} {fpos : Pos}
    (R : Rel C H s) (hclos : closureFor scope env = pure cl) (hcell : ∀ x ∈ scope.names, x.2 ≠ .cell) (hkind : scope.kind = .function) (hnames : ∀ x ∈ scope.names, x.2 = .local → scope.names.lookup x.1 = some .local) (nd : ln.Nodup)
    (h : WPI C A env iter target (fun C' Item H₁ => ∀ a cn, CompTurns C C' A (compEnvC scope cl cn env) target ifs elt a Item (Fin a cn) ((cn, .ns ln (ln.map fun _ => none)) :: (a, .list []) :: H₁)) H)
    (hfin : ∀ a cn acc H₁ s', Fin a cn acc H₁ → Rel C H₁ s' → Kept H s H₁ s' → compPost (model C.prog C.w) A NoE use QQ (.ref a) cn (.ok .next) s')
    (hs : ∀ x, foldedSetIterable iter env x = pure x := by intro _; with_unfolding_all rfl) :
    wpAny (model C.prog C.w) A (comprehension (.ListComp elt [⟨target, iter, ifs, 0⟩] scope pos) scope env fpos (newList []) false (eval iter env) use) QQ NoE s := by
  refine wpAny_comprehension_free rfl hs hclos hkind hnames (wpAny_mono (h s R) (fun v s₁ h₁ => wpAny_mono h₁ (fun it s₂ h₂ => ?_) fun _ _ e => e) fun _ _ e => e)
  obtain ⟨l, fp, wr, J, Item, H₂, T, S, hJ, hk, hn, hl, R₂, k₂⟩ := h₂
  have hX : ∀ b ∈ wr, b ∉ C.X := fun b hb q => by
    obtain ⟨n, o, e⟩ := R.xl b q
    rcases (hn b hb).2 with h | h
    · exact n h
    · rw [h] at e; cases e
  refine wpAny_newObj_type (wpAny_newFunctionEnv hcell (by intro y hy; simp at hy) (fun h₁ hns hsb => ?_) hkind) (by size_fits)
  dsimp only at hns hsb ⊢
  generalize hH2 : s₂.heap.push { cls := .type "list", dict := none, data := .seq ([] : List Value).toArray } = h₃ at hns hsb ⊢
  have ext₁ : ∀ b o, s₂.heap.get? b = some o → h₃.get? b = some o := fun b o e => hH2 ▸ Heap.get?_push_of_some _ e
  have ext₂ : ∀ b o, h₃.get? b = some o → h₁.get? b = some o := fun b o e => hsb.extBut b o (Nat.ne_of_lt (Heap.lt_size e)) (Heap.get?_push_of_some _ e)
  have R₃ := R₂.add (t := s₂.toks) (x := .list []) ext₁ (Nat.le_refl _) ⟨#[], ⟨0, hH2 ▸ Heap.get?_push_size _ rfl⟩, VsRel.nil⟩
  have R₄ := R₃.add (h' := h₁) (t := s₂.toks + 0) (x := .ns ln (ln.map fun _ => none)) ext₂ (Nat.le_refl _) ⟨nd, _, hns, nones_rel⟩
  have k₃ : Kept H₂ s₂ ((s₂.heap.objs.size, .list []) :: H₂) { s₂ with heap := h₃ } := kept_add (t := s₂.toks) ext₁ (Nat.le_refl _)
  have k₄ : Kept ((s₂.heap.objs.size, .list []) :: H₂) { s₂ with heap := h₃ } ((h₃.objs.size, .ns ln (ln.map fun _ => none)) :: (s₂.heap.objs.size, .list []) :: H₂) { s₂ with heap := h₁, toks := s₂.toks + 0 } :=
    kept_add (s := { s₂ with heap := h₃ }) (t := s₂.toks + 0) ext₂ (Nat.le_refl _)
  have hJ₁ : J 0 h₁ := S.frame 0 s₂.heap h₁ hJ (fz_of_ext fun b o e => ext₂ _ _ (ext₁ _ _ e)) fun b hb o e => ext₂ _ _ (ext₁ _ _ e)
  have hf₁ : ∀ b ∈ fp, b ∉ keys ((h₃.objs.size, AO.ns ln (ln.map fun _ => none)) :: (s₂.heap.objs.size, .list []) :: H₂) := fun b hb => by
    obtain ⟨o, e⟩ := S.live 0 s₂.heap hJ b hb
    obtain ⟨e', n'⟩ := k₃ b o (hk b hb) e
    exact (k₄ b o n' e').2
  have loop := compLoop_gen (scope := scope) (pos := pos) (iter := iter) (s := { s₂ with heap := h₁, toks := s₂.toks + 0 }) (H := (h₃.objs.size, .ns ln (ln.map fun _ => none)) :: (s₂.heap.objs.size, .list []) :: H₂) (env := compEnvC scope cl h₃.objs.size env)
    S R₄ hJ₁ hf₁ (fun b hb => (hn b hb).1) hX hl (T s₂.heap.objs.size h₃.objs.size)
  have loop' : codeAny (model C.prog C.w) A (.compLoop (.ListComp elt [⟨target, iter, ifs, 0⟩] scope pos) 0 it (.ref s₂.heap.objs.size) (compEnvC scope cl h₃.objs.size env)) (compPost (model C.prog C.w) A NoE use QQ (.ref s₂.heap.objs.size) h₃.objs.size) { s₂ with heap := h₁, toks := s₂.toks + 0 } := by
    refine codeAny_mono loop fun r s₅ h₅ => ?_
    obtain ⟨rfl, acc, H₅, hF, R₅, kb⟩ := h₅
    refine hfin _ _ acc H₅ s₅ hF R₅ (fun b o n e => ?_)
    obtain ⟨e₂, n₂⟩ := k₂ b o n e
    obtain ⟨e₃, n₃⟩ := k₃ b o n₂ e₂
    obtain ⟨e₄, n₄⟩ := k₄ b o n₃ e₃
    exact kb b o (fun q => by rcases (hn b q).2 with h | h; exact n h; rw [h] at e; cases e) n₄ e₄
  refine codeAny_compStart_list loop' (wpAny_mono (S.self 0 _ hJ₁) (fun r s' ⟨e1, e2⟩ => ?_) fun _ _ e => e.elim)
  subst e1 e2
  exact loop'

theorem wp_ListComp {elt target iter : Expr} {ifs : List Expr} {scope : Scope} {cl : List (Str × Addr)} {ln : List Str}
    (hclos : closureFor scope env = pure cl) (hcell : ∀ x ∈ scope.names, x.2 ≠ .cell) (hkind : scope.kind = .function) (hnames : ∀ x ∈ scope.names, x.2 = .local → scope.names.lookup x.1 = some .local) (nd : ln.Nodup)
    (h : WPI C A env iter target (fun C' Item H₁ => ∀ a cn, CompTurns C C' A (compEnvC scope cl cn env) target ifs elt a Item
      (fun acc H₂ => ∃ vals H₃, Pick (cn, .ns ln vals) H₂ H₃ ∧ Q (.ref a) H₃) ((cn, .ns ln (ln.map fun _ => none)) :: (a, .list []) :: H₁)) H)
    (hs : ∀ x, foldedSetIterable iter env x = pure x := by intro _; with_unfolding_all rfl) :
    WP C A (VRel C.X) (eval (.ListComp elt [⟨target, iter, ifs, 0⟩] scope pos) env) Q H := fun s R => by
  rw [eval_ListComp]
  refine comp_gen (use := none) R hclos hcell hkind hnames nd h (fun a cn acc H₁ s' ⟨vals, H₃, p, q⟩ R₁ k₁ => ?_) hs
  obtain ⟨_, m, hn, _⟩ := R₁.objs _ p.mem
  refine ⟨m, hn, fun h' hs' => ?_⟩
  obtain ⟨R₂, k₂⟩ := comp_go R₁ p hs'
  exact ⟨.ref a, H₃, q, rfl, R₂, k₁.trans k₂⟩

theorem wp1_Assign_ListComp {elt target iter : Expr} {ifs : List Expr} {scope : Scope} {cl : List (Str × Addr)} {ln : List Str} {y : Str} {py spos : Pos}
    (hsw : swapsWith (.ListComp elt [⟨target, iter, ifs, 0⟩] scope pos) (some (.Name y py)) spos.line env = pure true)
    (hclos : closureFor scope env = pure cl) (hcell : ∀ x ∈ scope.names, x.2 ≠ .cell) (hkind : scope.kind = .function) (hnames : ∀ x ∈ scope.names, x.2 = .local → scope.names.lookup x.1 = some .local) (nd : ln.Nodup)
    (h : WPI C A env iter target (fun C' Item H₁ => ∀ a cn, CompTurns C C' A (compEnvC scope cl cn env) target ifs elt a Item
      (fun acc H₂ => Op1 C A URel (storeName env y) (.ref a) (fun _ H₃ => ∃ vals H₄, Pick (cn, .ns ln vals) H₃ H₄ ∧ QF .next H₄) H₂) ((cn, .ns ln (ln.map fun _ => none)) :: (a, .list []) :: H₁)) H)
    (hs : ∀ x, foldedSetIterable iter env x = pure x := by intro _; with_unfolding_all rfl) :
    WP1 C A env (.Assign [.Name y py] (.ListComp elt [⟨target, iter, ifs, 0⟩] scope pos) spos) QF H := fun s R => by
  rw [exec_Assign_Name_used _ _ _ _ hsw]
  refine wpAny_bind (wpAny_standAt (wpAny_bind ?_))
  show wpAny _ A (do let _ ← comprehension (.ListComp elt [⟨target, iter, ifs, 0⟩] scope pos) scope env _ (newList []) false (eval iter env) (some (assign (.Name y py) env))) _ _ s
  refine wpAny_bind (wpAny_mono (comp_gen (use := some (assign (.Name y py) env)) (QQ := fun _ s' => ∃ H₄, QF .next H₄ ∧ Rel C H₄ s' ∧ Kept H s H₄ s') R hclos hcell hkind hnames nd h (fun a cn acc H₁ s' q R₁ k₁ => ?_) hs)
    (fun _ s' ⟨H₄, q, R₄, k₄⟩ => wpAny_pure (wpAny_pure ⟨.next, H₄, q, rfl, R₄, k₄⟩)) fun _ _ e => e)
  refine wpAny_assign_Name (wpAny_mono (q (.ref a) s' rfl R₁) (fun _ s₂ ⟨_, H₃, ⟨vals, H₄, p, q₄⟩, _, R₃, k₃⟩ => ?_) fun _ _ e => e)
  obtain ⟨_, m, hn, _⟩ := R₃.objs _ p.mem
  refine ⟨m, hn, fun h' hs' => ?_⟩
  obtain ⟨R₂, k₂⟩ := comp_go R₃ p hs'
  exact ⟨H₄, q₄, R₂, (k₁.trans k₃).trans k₂⟩
end
end
noncomputable section
section
variable {C C' : Cfg} {gl : List (Str × V)} {A : Around} {env : Env} {pos tpos : Pos} {H H' : AH} {Q : V → AH → Prop} {QF : Fl → AH → Prop} {QB : Bool → AH → Prop} {QU : Unit → AH → Prop}

theorem wp1_Assign {t value : Expr} (h : WP C A (VRel C.X) (eval value env) (fun v H₁ => WPA C A env t v (fun _ H₂ => QF .next H₂) H₁) H)
    (hs : swapsWithSole [t] value pos.line env = pure false := by with_unfolding_all rfl) (hw : swappedStores [t] value env = pure none := by with_unfolding_all rfl)
    (he : (assignEach [t] env).map (·.2) = [assign t env] := by with_unfolding_all rfl) : WP1 C A env (.Assign [t] value pos) QF H := fun s R => by
  rw [exec_Assign]
  refine wpAny_bind (wpAny_standAt ?_)
  rw [hs]
  refine wpAny_bind (wpAny_pure ?_)
  rw [if_neg (by decide)]
  refine wpAny_bind (wpAny_mono (h s R) (fun v s₁ p80 => Post.el p80 fun x H₁ q rv R₁ k => ?_) fun _ _ x => x)
  rw [hw, he]
  refine wpAny_bind (wpAny_pure ?_)
  show wpAny _ A (do assignAll v [assign t env]; pure Flow.next) _ _ s₁
  exact wpAny_bind (wpAny_mono (q v s₁ rv R₁) (fun _ _ p81 => Post.el p81 fun _ H₂ q₂ _ R₂ k₂ => wpAny_pure ⟨.next, H₂, q₂, rfl, R₂, k.trans k₂⟩) fun _ _ x => x)

/-- stores in order -/
noncomputable def WPAs (C : Cfg) (A : Around) (fs : List (Value → Sem Unit)) (vs : List V) (Q : Unit → AH → Prop) (H : AH) : Prop :=
  ∀ ws s, VsRel C.X s.heap vs ws → Rel C H s → wpAny (model C.prog C.w) A (assignInOrder fs ws) (Post C URel Q H s) NoE s
theorem wpas_nil (q : QU () H) : WPAs C A [] [] QU H := fun ws s r R => by
  simp only [VsRel] at r; subst r
  exact wpAny_pure ⟨(), H, q, trivial, R, Kept.refl _ _⟩
theorem wpas_cons {f : Value → Sem Unit} {fs : List (Value → Sem Unit)} {v : V} {vs : List V} (h : Op1 C A URel f v (fun _ H₁ => WPAs C A fs vs QU H₁) H) : WPAs C A (f :: fs) (v :: vs) QU H := fun ws s r R => by
  simp only [VsRel] at r
  obtain ⟨w, l, rfl, r1, r2⟩ := r
  show wpAny _ A (do holding l (f w); assignInOrder fs l) _ _ s
  refine wpAny_bind (wpAny_holding (wpAny_mono (h w s r1 R) (fun _ s₁ p82 => Post.el p82 fun _ H₁ q _ R₁ k => ?_) fun _ _ x => x))
  exact wpAny_mono (q l s₁ (r2.fz (k.fz R)) R₁) (fun _ _ p => post_then k p) fun _ _ x => x

theorem asg_Tuple {elts : List Expr} {k : Nat} {vs : List V} (hA : A.handled = none) (h : WPAs C A ((assignEach elts env).map (·.2)) vs QU H)
    (hn : (assignEach elts env).length = vs.length := by with_unfolding_all rfl) (hstar : (assignEach elts env).findIdx? (·.1) = none := by with_unfolding_all rfl) : WPA C A env (.Tuple elts k pos) (.tup vs) QU H := fun w s r R => by
  simp only [VRel] at r
  obtain ⟨a, items, rfl, hX, ht, rvs⟩ := r
  have hl := rvs.length
  refine wpAny_assign_Tuple hA ht (by rw [hn, ← hl]; simp) hstar fun h' he => ?_
  have ext : ∀ b o, s.heap.get? b = some o → h'.get? b = some o := fun b o e => he b o (Nat.ne_of_lt (Heap.lt_size e)) e
  exact wpAny_mono (h _ { s with heap := h' } (rvs.fz (fz_of_ext ext)) (R.ext (t := s.toks) ext)) (fun _ _ p => post_then (kept_of_ext (t := s.toks) ext) p) fun _ _ x => x

theorem op_bind {x : Str} {v : V} (h : Op1 C A URel (storeName env x) v QU H) : Op1 C A URel (bindName env x) v QU H := fun w s r R => wpAny_bindName (h w s r R)

theorem asg_Attribute {o : Expr} {name : Str} {v : V} (h : WP C A (VRel C.X) (eval o env) (fun x H₁ => Op2 C A URel (fun o v => setAttr o name v) x v QU H₁) H) : WPA C A env (.Attribute o name pos) v QU H := fun w s r R => by
  rw [arm_assign_Attribute]
  refine wpAny_bind (wpAny_holding (wpAny_mono (h s R) (fun ov s₁ p86 => Post.el p86 fun x H₁ q rx R₁ k => ?_) fun _ _ e => e))
  refine wpAny_bind (wpAny_standAt (wpAny_bind (wpAny_holding (wpAny_mono (q ov w s₁ rx (r.fz (k.fz R)) R₁) (fun _ s₂ p => ?_) fun _ _ e => e))))
  exact wpAny_release (post_then k p)

/-- what a store at a place of an object does -/
noncomputable def Op3 (C : Cfg) (A : Around) {α β : Type} (T : Heap → β → α → Prop) (f : Value → Value → Value → Sem α) (x y z : V) (Q : β → AH → Prop) (H : AH) : Prop :=
  ∀ v w u s, VRel C.X s.heap x v → VRel C.X s.heap y w → VRel C.X s.heap z u → Rel C H s → wpAny (model C.prog C.w) A (f v w u) (Post C T Q H s) NoE s
theorem asg_Subscript {o i : Expr} {v : V} (h : WP C A (VRel C.X) (eval o env) (fun x H₁ => WP C A (VRel C.X) (eval i env) (fun y H₂ => Op3 C A URel setItem x y v QU H₂) H₁) H) : WPA C A env (.Subscript o i pos) v QU H := fun w s r R => by
  rw [arm_assign_Subscript]
  refine wpAny_bind (wpAny_holding (wpAny_mono (h s R) (fun ov s₁ p87 => Post.el p87 fun x H₁ q rx R₁ k => ?_) fun _ _ e => e))
  refine wpAny_bind (wpAny_holding (wpAny_mono (q s₁ R₁) (fun iv s₂ p88 => Post.el p88 fun y H₂ q₂ ry R₂ k₂ => ?_) fun _ _ e => e))
  refine wpAny_bind (wpAny_standAt (wpAny_bind (wpAny_holding (wpAny_mono (q₂ ov iv w s₂ (rx.fz (k₂.fz R₁)) ry ((r.fz (k.fz R)).fz (k₂.fz R₁)) R₂) (fun _ s₃ p => ?_) fun _ _ e => e))))
  exact wpAny_release (post_then k (post_then k₂ p))

theorem wp1_Aug_Attribute {o value : Expr} {attr : Str} {op : Operator}
    (h : WP C A (VRel C.X) (eval o env) (fun x H₁ => Op1 C A (VRel C.X) (fun o => getAttr o attr true) x (fun u H₂ => WP C A (VRel C.X) (eval value env) (fun y H₃ =>
      Op2 C A (VRel C.X) (inplaceOp op) u y (fun z H₄ => Op2 C A URel (fun o v => setAttr o attr v) x z (fun _ H₅ => QF .next H₅) H₄) H₃) H₂) H₁) H) :
    WP1 C A env (.AugAssign (.Attribute o attr tpos) op value pos) QF H := fun s R =>
  wpAny_AugAssign_AttributeAny (wpAny_mono (h s R) (fun ov s₁ p89 => Post.el p89 fun x H₁ q rx R₁ k => wpAny_mono (q ov s₁ rx R₁) (fun old s₂ p90 => Post.el p90 fun u H₂ q₂ ru R₂ k₂ => 
    wpAny_mono (q₂ s₂ R₂) (fun v s₃ p91 => Post.el p91 fun y H₃ q₃ ry R₃ k₃ => wpAny_mono (q₃ old v s₃ (ru.fz (k₃.fz R₂)) ry R₃) (fun nw s₄ p92 => Post.el p92 fun z H₄ q₄ rz R₄ k₄ => 
      wpAny_mono (q₄ ov nw s₄ (((rx.fz (k₂.fz R₁)).fz (k₃.fz R₂)).fz (k₄.fz R₃)) rz R₄) (fun _ s₅ p93 => Post.el p93 fun _ H₅ q₅ _ R₅ k₅ => ⟨.next, H₅, q₅, rfl, R₅, (((k.trans k₂).trans k₃).trans k₄).trans k₅⟩)
        fun _ _ e => e) fun _ _ e => e) fun _ _ e => e) fun _ _ e => e) fun _ _ e => e)

theorem wp_Attribute {o : Expr} {name : Str} (h : WP C A (VRel C.X) (eval o env) (fun x H₁ => Op1 C A (VRel C.X) (fun o => getAttr o name true) x Q H₁) H)
    (hbase : attributeBase o name env (eval o env) = eval o env := by with_unfolding_all rfl) : WP C A (VRel C.X) (eval (.Attribute o name pos) env) Q H := fun s R => by
  rw [arm_eval_Attribute, hbase]
  refine wpAny_bind (wpAny_mono (h s R) (fun ov s₁ p94 => Post.el p94 fun x H₁ q rx R₁ k => ?_) fun _ _ e => e)
  refine wpAny_bind (wpAny_standAt (wpAny_bind (wpAny_holding (wpAny_mono (q ov s₁ rx R₁) (fun r s₂ p => ?_) fun _ _ e => e))))
  exact wpAny_bind (wpAny_letTemporaryGo (wpAny_pure (post_then k p)))

/-- an item of a value: its class has its own way -/
noncomputable def GI (C : Cfg) (A : Around) (x y : V) (Q : V → AH → Prop) (H : AH) : Prop :=
  ∀ o i s, VRel C.X s.heap x o → VRel C.X s.heap y i → Rel C H s → ItemOn (model C.prog C.w) A NoE o i (Post C (VRel C.X) Q H s) s
theorem item_tail {value slice : Expr} {o i : Value} {P : Value → Shared → Prop} {s : Shared} (h : ItemOn (model C.prog C.w) A NoE o i P s) :
    wpAny (model C.prog C.w) A (getitemInPython o >>= fun p => subscripted slice p o i >>= fun r => letTemporaryGo value o r >>= fun _ => pure r) P NoE s := by
  obtain ⟨T, id, hl, hT, hg⟩ := h
  refine wpAny_bind ?_
  rw [getitemInPython_of_ne hT.not_modules]
  refine wpAny_bind (wpAny_specialOf hT hl (wpAny_pure ?_))
  have fin : ∀ vs, wpAny (model C.prog C.w) A (operate vs (getItem o i)) (fun r s₃ => wpAny (model C.prog C.w) A (letTemporaryGo value o r >>= fun _ => pure r) P NoE s₃) NoE s := fun vs =>
    wpAny_operating (wpAny_mono hg (fun r s₃ h₃ => wpAny_bind (wpAny_letTemporaryGo (wpAny_pure h₃))) fun _ _ x => x)
  refine wpAny_bind ?_
  unfold subscripted
  split
  · exact fin _
  · rename_i he; cases he
  · exact fin _
theorem wp_Subscript {o i : Expr} (h : WP C A (VRel C.X) (eval o env) (fun x H₁ => WP C A (VRel C.X) (eval i env) (fun y H₂ => GI C A x y Q H₂) H₁) H) : WP C A (VRel C.X) (eval (.Subscript o i pos) env) Q H := fun s R => by
  rw [eval_Subscript]
  refine wpAny_bind (wpAny_mono (h s R) (fun ov s₁ p95 => Post.el p95 fun x H₁ q rx R₁ k => ?_) fun _ _ e => e)
  refine wpAny_bind (wpAny_holding (wpAny_mono (q s₁ R₁) (fun iv s₂ p96 => Post.el p96 fun y H₂ q₂ ry R₂ k₂ => ?_) fun _ _ e => e))
  refine wpAny_bind (wpAny_standAt (item_tail ?_))
  obtain ⟨T, id, hl, hT, hg⟩ := q₂ ov iv s₂ (rx.fz (k₂.fz R₁)) ry R₂
  exact ⟨T, id, hl, hT, wpAny_mono hg (fun _ _ p => post_then k (post_then k₂ p)) fun _ _ e => e⟩

/-- a part of a slice -/
noncomputable def PRel (_ : Heap) : Option Int → Value → Prop := fun o v => IsPart v o
noncomputable abbrev WPP (C : Cfg) (A : Around) (env : Env) (e : Option Expr) (Q : Option Int → AH → Prop) (H : AH) : Prop := WP C A PRel (evalPart e env) Q H
variable {QP : Option Int → AH → Prop}
theorem wpp_none (q : QP none H) : WPP C A env none QP H := fun s R => wpAny_pure (post_id (x := none) R .none q)
theorem wpp_some {e : Expr} (h : WP C A (VRel C.X) (eval e env) (fun x H₁ => IntOf x (fun i => QP (some i) H₁)) H) : WPP C A env (some e) QP H := fun s R =>
  wpAny_mono (h s R) (fun v s₁ ⟨x, H₁, ⟨i, hx, q⟩, r, R₁, k⟩ => by
    subst hx; simp only [VRel] at r; obtain ⟨t, rfl⟩ := r
    exact ⟨some i, H₁, q, .int i t, R₁, k⟩) fun _ _ e => e
noncomputable def GS (C : Cfg) (A : Around) (x : V) (l u st : Option Int) (Q : V → AH → Prop) (H : AH) : Prop :=
  ∀ o sl vl vu vs s, VRel C.X s.heap x o → s.heap.IsSliceOf sl vl vu vs → IsPart vl l → IsPart vu u → IsPart vs st → Rel C H s → ItemOn (model C.prog C.w) A NoE o (.ref sl) (Post C (VRel C.X) Q H s) s
theorem wp_Slice {o : Expr} {l u st : Option Expr} {p : Pos}
    (h : WP C A (VRel C.X) (eval o env) (fun x H₁ => WPP C A env l (fun l H₂ => WPP C A env u (fun u H₃ => WPP C A env st (fun st H₄ => GS C A x l u st Q H₄) H₃) H₂) H₁) H) :
    WP C A (VRel C.X) (eval (.Subscript o (.Slice l u st p) pos) env) Q H := fun s R => by
  rw [eval_Subscript]
  refine wpAny_bind (wpAny_mono (h s R) (fun ov s₁ p99 => Post.el p99 fun x H₁ q rx R₁ k => ?_) fun _ _ e => e)
  refine wpAny_bind (wpAny_holding (wpAny_Slice (wpAny_mono (q s₁ R₁) (fun lv s₂ p100 => Post.el p100 fun lo H₂ q₂ rl R₂ k₂ => wpAny_mono (q₂ s₂ R₂) (fun uv s₃ p101 => Post.el p101 fun hi H₃ q₃ ru R₃ k₃ => wpAny_mono (q₃ s₃ R₃) (fun sv s₄ p102 => Post.el p102 fun st' H₄ q₄ rst R₄ k₄ => ?_)
    fun _ _ e => e) fun _ _ e => e) fun _ _ e => e)))
  refine wpAny_bind (wpAny_standAt (item_tail ?_))
  have ext : ∀ b o, s₄.heap.get? b = some o → (s₄.heap.push { cls := .type "slice", data := .fields #[lv, uv, sv] }).get? b = some o := fun b o e => Heap.get?_push_of_some _ e
  obtain ⟨T, id, hl, hT, hg⟩ := q₄ ov _ lv uv sv _ ((((rx.fz (k₂.fz R₁)).fz (k₃.fz R₂)).fz (k₄.fz R₃)).fz (fz_of_ext ext)) (Heap.IsSliceOf.new s₄.heap lv uv sv) rl ru rst (R₄.ext (t := s₄.toks) ext)
  exact ⟨T, id, hl, hT, wpAny_mono hg (fun _ _ p => post_then k (post_then k₂ (post_then k₃ (post_then k₄ (post_then (kept_of_ext (t := s₄.toks) ext) p))))) fun _ _ e => e⟩

-- items
theorem filterMap_rel {X : List Addr} {h : Heap} {us : List V} {vs : List Value} (r : VsRel X h us vs) : ∀ is : List Nat, VsRel X h (is.filterMap (us[·]?)) (is.filterMap (vs[·]?))
  | [] => VsRel.nil
  | i :: is => by
    rw [List.filterMap_cons, List.filterMap_cons]
    cases e : us[i]? with
    | none =>
      have : vs[i]? = none := by rw [List.getElem?_eq_none_iff, r.length, ← List.getElem?_eq_none_iff]; exact e
      rw [this]; exact filterMap_rel r is
    | some u =>
      obtain ⟨v, hv, rv⟩ := r.get e
      rw [hv]; exact .cons rv (filterMap_rel r is)
/-- a list's slice -/
noncomputable def pySlice {α : Type} (l : List α) (lo hi st : Option Int) : List α :=
  (sliceRange (sliceBounds lo hi st l.length).1 (sliceBounds lo hi st l.length).2.1 (sliceBounds lo hi st l.length).2.2).filterMap (l[·]?)

theorem gi_list {l : Addr} {vs : List V} {i : Int} {v : V} (hl : (l, AO.list vs) ∈ H) (h0 : 0 ≤ i) (hx : vs[i.toNat]? = some v) (hz : vs.length ≤ 1000000) (q : Q v H) : GI C A (.ref l) (.int i) Q H := fun o iv s ro ri R => by
  simp only [VRel] at ro ri; subst ro; obtain ⟨t, rfl⟩ := ri
  obtain ⟨items, pl, rvs⟩ := R.objs _ hl
  obtain ⟨w, hw, rw⟩ := rvs.get hx
  have hlt := (List.getElem?_eq_some_iff.mp hx).1
  exact ⟨_, _, slot_list_getitem.lookup, (PlainList.isList pl).typeIs, wpAny_getItem_list (PlainList.isList pl) h0 (by omega) (by simpa using hw) (post_id R rw q)⟩
theorem gs_list {l : Addr} {vs : List V} {lo hi st : Option Int} (hl : (l, AO.list vs) ∈ H) (h0 : st ≠ some 0) (hz : vs.length ≤ 1000000) (q : ∀ a, Q (.ref a) ((a, .list (pySlice vs lo hi st)) :: H)) : GS C A (.ref l) lo hi st Q H := fun o sl vl vu vst s ro hs p1 p2 p3 R => by
  simp only [VRel] at ro; subst ro
  obtain ⟨items, pl, rvs⟩ := R.objs _ hl
  have hlen := rvs.length
  refine ⟨_, _, slot_list_getitem.lookup, (PlainList.isList pl).typeIs, wpAny_getItem_list_slice (PlainList.isList pl) hs p1 p2 p3 h0 ?_ (by rw [← Array.length_toList, hlen, sizeLine_eq]; omega)⟩
  have ext : ∀ b o, s.heap.get? b = some o → (s.heap.push { cls := .type "list", data := .seq (slicePick items lo hi st) }).get? b = some o := fun b o e => Heap.get?_push_of_some _ e
  refine ⟨_, _, q _, rfl, R.add (t := s.toks) ext (Nat.le_refl _) ⟨_, ⟨0, Heap.get?_push_size _ rfl⟩, ?_⟩, kept_add (t := s.toks) ext (Nat.le_refl _)⟩
  have := (filterMap_rel (rvs.fz (fz_of_ext ext)) (sliceRange (sliceBounds lo hi st vs.length).1 (sliceBounds lo hi st vs.length).2.1 (sliceBounds lo hi st vs.length).2.2))
  have e : (slicePick items lo hi st).toList = (sliceRange (sliceBounds lo hi st vs.length).1 (sliceBounds lo hi st vs.length).2.1 (sliceBounds lo hi st vs.length).2.2).filterMap (items.toList[·]?) := by
    unfold slicePick
    rw [← hlen]; simp
  rw [e]
  exact this
end
end
noncomputable section
theorem intBits_le {a : Int} {k : Nat} (h : a.natAbs < 2 ^ k) : Builtin.Int.intBits a ≤ k := by
  unfold Builtin.Int.intBits
  split
  · exact Nat.zero_le _
  · rename_i h0
    have h1 : a.natAbs ≠ 0 := by simpa using h0
    exact (Nat.log2_lt h1).mpr h
theorem mulOk {a b : Int} {k l : Nat} (ha : a.natAbs < 2 ^ k) (hb : b.natAbs < 2 ^ l) (h : k + l ≤ 100000) : IntMulOk a b := by
  have h1 := intBits_le ha
  have h2 := intBits_le hb
  unfold IntMulOk Builtin.Int.intTooBig bitsLine
  simp
  intro _ _
  lia

section
variable {C C' : Cfg} {gl : List (Str × V)} {A : Around} {env : Env} {pos tpos : Pos} {H H' : AH} {Q : V → AH → Prop} {QF : Fl → AH → Prop} {QB : Bool → AH → Prop} {QU : Unit → AH → Prop}

theorem op_sub_int {a : Int} {b : Int} (q : Q (.int (a - b)) H) : Op2 C A (VRel C.X) (binaryOp .Sub) (.int a) (.int b) Q H := fun v w s hv hw R => by
  simp only [VRel] at hv hw; obtain ⟨t, rfl⟩ := hv; obtain ⟨u, rfl⟩ := hw
  exact PyProof.Rows.sub_int (post_tk (s := s) (x := V.int (a - b)) R ⟨_, rfl⟩ q)
theorem op_mul_int {a : Int} {b : Int} (hm : IntMulOk a b) (q : Q (.int (a * b)) H) : Op2 C A (VRel C.X) (binaryOp .Mult) (.int a) (.int b) Q H := fun v w s hv hw R => by
  simp only [VRel] at hv hw; obtain ⟨t, rfl⟩ := hv; obtain ⟨u, rfl⟩ := hw
  exact mul_int (hm := hm) (post_tk (s := s) (x := V.int (a * b)) R ⟨_, rfl⟩ q)
theorem op_floordiv_int {a : Int} {b : Int} (hb : b ≠ 0) (hp : Builtin.divisionGoesByPylong a b = false) (q : Q (.int (a.fdiv b)) H) : Op2 C A (VRel C.X) (binaryOp .FloorDiv) (.int a) (.int b) Q H := fun v w s hv hw R => by
  simp only [VRel] at hv hw; obtain ⟨t, rfl⟩ := hv; obtain ⟨u, rfl⟩ := hw
  exact floordiv_int (hp := .inl hp) hb (post_tk (s := s) (x := V.int (a.fdiv b)) R ⟨_, rfl⟩ q)
theorem op_mod_int {a : Int} {b : Int} (hb : b ≠ 0) (q : Q (.int (a.fmod b)) H) : Op2 C A (VRel C.X) (binaryOp .Mod) (.int a) (.int b) Q H := fun v w s hv hw R => by
  simp only [VRel] at hv hw; obtain ⟨t, rfl⟩ := hv; obtain ⟨u, rfl⟩ := hw
  exact PyProof.Rows.mod_int hb (post_tk (s := s) (x := V.int (a.fmod b)) R ⟨_, rfl⟩ q)
theorem op_rshift_int {a : Int} {b : Int} (hb : 0 ≤ b) (q : Q (.int (a.fdiv (2 ^ b.toNat))) H) : Op2 C A (VRel C.X) (binaryOp .RShift) (.int a) (.int b) Q H := fun v w s hv hw R => by
  simp only [VRel] at hv hw; obtain ⟨t, rfl⟩ := hv; obtain ⟨u, rfl⟩ := hw
  exact rshift_int hb (post_tk (s := s) (x := V.int (a.fdiv (2 ^ b.toNat))) R ⟨_, rfl⟩ q)
theorem op_lshift_int {a : Int} {b : Int} (hb : 0 ≤ b) (hz : (Builtin.Int.intBits a : Int) + b ≤ 2 ^ 27) (q : Q (.int (a * 2 ^ b.toNat)) H) : Op2 C A (VRel C.X) (binaryOp .LShift) (.int a) (.int b) Q H := fun v w s hv hw R => by
  simp only [VRel] at hv hw; obtain ⟨t, rfl⟩ := hv; obtain ⟨u, rfl⟩ := hw
  exact lshift_int hb hz (post_tk (s := s) (x := V.int (a * 2 ^ b.toNat)) R ⟨_, rfl⟩ q)
theorem op_and_int {a : Int} {b : Int} (q : Q (.int (Builtin.bitAnd a b)) H) : Op2 C A (VRel C.X) (binaryOp .BitAnd) (.int a) (.int b) Q H := fun v w s hv hw R => by
  simp only [VRel] at hv hw; obtain ⟨t, rfl⟩ := hv; obtain ⟨u, rfl⟩ := hw
  exact and_int (post_tk (s := s) (x := V.int (Builtin.bitAnd a b)) R ⟨_, rfl⟩ q)
theorem op_xor_int {a : Int} {b : Int} (q : Q (.int (Builtin.bitXor a b)) H) : Op2 C A (VRel C.X) (binaryOp .BitXor) (.int a) (.int b) Q H := fun v w s hv hw R => by
  simp only [VRel] at hv hw; obtain ⟨t, rfl⟩ := hv; obtain ⟨u, rfl⟩ := hw
  exact xor_int (post_tk (s := s) (x := V.int (Builtin.bitXor a b)) R ⟨_, rfl⟩ q)
theorem iop_add_int {a : Int} {b : Int} (q : Q (.int (a + b)) H) : Op2 C A (VRel C.X) (inplaceOp .Add) (.int a) (.int b) Q H := fun v w s hv hw R => by
  simp only [VRel] at hv hw; obtain ⟨t, rfl⟩ := hv; obtain ⟨u, rfl⟩ := hw
  exact iadd_int (post_tk (s := s) (x := V.int (a + b)) R ⟨_, rfl⟩ q)
theorem op_pow_int {a : Int} {b : Int} (hb : 0 ≤ b) (hz : (Builtin.Int.intBits a : Int) * b ≤ 2 ^ 27) (q : Q (.int (a ^ b.toNat)) H) : Op2 C A (VRel C.X) (binaryOp .Pow) (.int a) (.int b) Q H := fun v w s hv hw R => by
  simp only [VRel] at hv hw; obtain ⟨t, rfl⟩ := hv; obtain ⟨u, rfl⟩ := hw
  exact PyProof.Rows.pow_int hb hz (post_tk (s := s) (x := V.int (a ^ b.toNat)) R ⟨_, rfl⟩ q)
theorem op_lt_int {a : Int} {b : Int} (q : Q (.bool (decide (a < b))) H) : Op2 C A (VRel C.X) (compareOp .Lt) (.int a) (.int b) Q H := fun v w s hv hw R => by
  simp only [VRel] at hv hw; obtain ⟨t, rfl⟩ := hv; obtain ⟨u, rfl⟩ := hw
  exact PyProof.Rows.lt_int (post_id (x := V.bool (decide (a < b))) R rfl q)
theorem op_gt_int {a : Int} {b : Int} (q : Q (.bool (decide (b < a))) H) : Op2 C A (VRel C.X) (compareOp .Gt) (.int a) (.int b) Q H := fun v w s hv hw R => by
  simp only [VRel] at hv hw; obtain ⟨t, rfl⟩ := hv; obtain ⟨u, rfl⟩ := hw
  exact PyProof.Rows.gt_int (post_id (x := V.bool (decide (b < a))) R rfl q)
theorem op_eq_int {a : Int} {b : Int} (q : Q (.bool (a == b)) H) : Op2 C A (VRel C.X) (compareOp .Eq) (.int a) (.int b) Q H := fun v w s hv hw R => by
  simp only [VRel] at hv hw; obtain ⟨t, rfl⟩ := hv; obtain ⟨u, rfl⟩ := hw
  exact PyProof.Rows.eq_int (post_id (x := V.bool (a == b)) R rfl q)
theorem op_le_int {a : Int} {b : Int} (q : Q (.bool (decide (a ≤ b))) H) : Op2 C A (VRel C.X) (compareOp .LtE) (.int a) (.int b) Q H := fun v w s hv hw R => by
  simp only [VRel] at hv hw; obtain ⟨t, rfl⟩ := hv; obtain ⟨u, rfl⟩ := hw
  exact PyProof.Rows.le_int (post_id (x := V.bool (decide (a ≤ b))) R rfl q)
theorem op_ge_int {a : Int} {b : Int} (q : Q (.bool (decide (b ≤ a))) H) : Op2 C A (VRel C.X) (compareOp .GtE) (.int a) (.int b) Q H := fun v w s hv hw R => by
  simp only [VRel] at hv hw; obtain ⟨t, rfl⟩ := hv; obtain ⟨u, rfl⟩ := hw
  exact PyProof.Rows.ge_int (post_id (x := V.bool (decide (b ≤ a))) R rfl q)
theorem op_eq_str {a : Str} {b : Str} (q : Q (.bool (a == b)) H) : Op2 C A (VRel C.X) (compareOp .Eq) (.str a) (.str b) Q H := fun v w s hv hw R => by
  simp only [VRel] at hv hw; obtain ⟨t, rfl⟩ := hv; obtain ⟨u, rfl⟩ := hw
  exact PyProof.Rows.eq_str (post_id (x := V.bool (a == b)) R rfl q)
theorem op_in_str {a : Str} {b : Str} (q : Q (.bool (!(Builtin.Str.occurrences b a 0 b.length 1).isEmpty)) H) : Op2 C A (VRel C.X) (compareOp .In) (.str a) (.str b) Q H := fun v w s hv hw R => by
  simp only [VRel] at hv hw; obtain ⟨t, rfl⟩ := hv; obtain ⟨u, rfl⟩ := hw
  exact PyProof.Rows.in_str (post_id (x := V.bool (!(Builtin.Str.occurrences b a 0 b.length 1).isEmpty)) R rfl q)
theorem op_add_str {a b : Str} (hz : a.length + b.length ≤ 100000) (q : Q (.str (a ++ b)) H) : Op2 C A (VRel C.X) (binaryOp .Add) (.str a) (.str b) Q H := fun v w s hv hw R => by
  simp only [VRel] at hv hw; obtain ⟨t, rfl⟩ := hv; obtain ⟨u, rfl⟩ := hw
  exact PyProof.Rows.add_str (fun t' tk => post_tk (s := s) (x := V.str _) R ⟨_, rfl⟩ q) (by rw [sizeLine_eq]; lia)
theorem iop_add_str {a b : Str} (hz : a.length + b.length ≤ 100000) (q : Q (.str (a ++ b)) H) : Op2 C A (VRel C.X) (inplaceOp .Add) (.str a) (.str b) Q H := fun v w s hv hw R => by
  simp only [VRel] at hv hw; obtain ⟨t, rfl⟩ := hv; obtain ⟨u, rfl⟩ := hw
  exact PyProof.Rows.iadd_str (fun t' tk => post_tk (s := s) (x := V.str _) R ⟨_, rfl⟩ q) (by rw [sizeLine_eq]; lia)
theorem op_add_bytes {a b : Array UInt8} (hz : a.size + b.size ≤ 100000) (q : Q (.bytes (a ++ b)) H) : Op2 C A (VRel C.X) (binaryOp .Add) (.bytes a) (.bytes b) Q H := fun v w s hv hw R => by
  simp only [VRel] at hv hw; obtain ⟨t, rfl⟩ := hv; obtain ⟨u, rfl⟩ := hw
  exact PySem.W.KBy.add_bytes (by lia) (fun t' tk => post_tk (s := s) (x := V.bytes _) R ⟨_, rfl⟩ q)
theorem op_neg_int {a : Int} (q : Q (.int (-a)) H) : Op1 C A (VRel C.X) (unaryOp .USub) (.int a) Q H := fun v s hv R => by
  simp only [VRel] at hv; obtain ⟨t, rfl⟩ := hv
  exact PyProof.Rows.neg_int (post_tk (s := s) (x := V.int _) R ⟨_, rfl⟩ q)
-- truth
theorem tr_bool {b : Bool} (q : QB b H) : Op1 C A BRel truthy (.bool b) QB H := fun v s hv R => by
  simp only [VRel] at hv; subst hv
  exact wpAny_truthy_bool (post_id R rfl q)
theorem tr_int {a : Int} (q : QB (a != 0) H) : Op1 C A BRel truthy (.int a) QB H := fun v s hv R => by
  simp only [VRel] at hv; obtain ⟨t, rfl⟩ := hv
  exact PyProof.Rows.truthy_int (post_id R rfl q)
theorem tr_str {a : Str} (hz : a.length ≤ 100000) (q : QB ((a.length : Int) != 0) H) : Op1 C A BRel truthy (.str a) QB H := fun v s hv R => by
  simp only [VRel] at hv; obtain ⟨t, rfl⟩ := hv
  exact PySem.P.truthy_str (by lia) (post_tk (s := s) R rfl q)
theorem tr_list {l : Addr} {vs : List V} (hl : (l, AO.list vs) ∈ H) (hz : vs.length ≤ 100000) (q : QB (decide (0 < vs.length)) H) : Op1 C A BRel truthy (.ref l) QB H := fun v s hv R => by
  simp only [VRel] at hv; subst hv
  obtain ⟨items, pl, rvs⟩ := R.objs _ hl
  have hlen := rvs.length
  refine wpAny_truthy_list (PlainList.isList pl) (by rw [← Array.length_toList, hlen]; lia) ?_
  have e : (!items.isEmpty) = decide (0 < vs.length) := by
    rw [← hlen, Array.length_toList]
    cases h : items.size with
    | zero => simp [Array.isEmpty, h]
    | succ n => simp [Array.isEmpty, h]
  rw [e]
  exact post_tk (s := s) R rfl q
end
end
noncomputable section
theorem keeps_nr {M : Model} {A : Around} {fv : Value} {s : Shared} (h : ∀ a, fv ≠ .ref a) : KeepsOk M A fv s := ⟨.machine, fun Q q => by
  unfold keeperOf
  cases fv with
  | ref a => exact absurd rfl (h a)
  | _ => exact wpAny_pure q⟩

theorem strsAre_of {X : List Addr} {h : Heap} : ∀ {ys : List Str} {vs : List Value}, VsRel X h (ys.map V.str) vs → StrsAre vs ys
  | [], vs, r => by simp only [List.map_nil, VsRel] at r; subst r; exact .nil
  | y :: ys, vs, r => by
    simp only [List.map_cons, VsRel, VRel] at r
    obtain ⟨v, l, rfl, ⟨t, rfl⟩, r⟩ := r
    exact .cons y t (strsAre_of r)

theorem upd_plain {h : Heap} {l : Addr} {items : Array Value} {n : Nat} (f : Array Value → Array Value) (e : h.get? l = some { cls := .type "list", data := .seq items n }) :
    (h.update l (Obj.mapSeq f)).PlainList l (f items) ∧ Heap.SameBut l h (h.update l (Obj.mapSeq f)) := by
  obtain ⟨n', hd'⟩ : ∃ n', Obj.mapSeq f { cls := .type "list", data := .seq items n } = { cls := .type "list", data := .seq (f items) n' } := ⟨_, rfl⟩
  exact ⟨⟨n', by rw [Heap.get?_update_self _ e (by rw [hd']; rfl), hd']⟩, Heap.SameBut.update ..⟩

section
variable {C C' : Cfg} {gl : List (Str × V)} {A : Around} {env : Env} {pos tpos : Pos} {H H' : AH} {Q : V → AH → Prop} {QF : Fl → AH → Prop} {QB : Bool → AH → Prop} {QU : Unit → AH → Prop}
variable {QM : V → List V → AH → Prop}

/-- a callee that is no object -/
noncomputable def CallB (C : Cfg) (A : Around) (fv : Value) (args : List V) (Q : V → AH → Prop) (H : AH) : Prop :=
  ∀ avs s, VsRel C.X s.heap args avs → Rel C H s → wpAny (model C.prog C.w) A (call fv avs) (Post C (VRel C.X) Q H s) NoE s
theorem wpc_bi {id : String} {args : List V} (h : CallB C A (.builtin id) args Q H) : WPC C A (.bi id) args Q H := fun fv avs s r ra R => by
  simp only [VRel] at r; subst r
  exact ⟨keeps_nr fun _ e => (nomatch e), h avs s ra R⟩
theorem wpc_ty {id : String} {args : List V} (h : CallB C A (.type id) args Q H) : WPC C A (.ty id) args Q H := fun fv avs s r ra R => by
  simp only [VRel] at r; subst r
  exact ⟨keeps_nr fun _ e => (nomatch e), h avs s ra R⟩

theorem rel1 {X : List Addr} {h : Heap} {x : V} {avs : List Value} (r : VsRel X h [x] avs) : ∃ v, avs = [v] ∧ VRel X h x v := by
  simp only [VsRel] at r
  obtain ⟨v, l, rfl, r, rfl⟩ := r
  exact ⟨v, rfl, r⟩
theorem rel2 {X : List Addr} {h : Heap} {x y : V} {avs : List Value} (r : VsRel X h [x, y] avs) : ∃ v w, avs = [v, w] ∧ VRel X h x v ∧ VRel X h y w := by
  simp only [VsRel] at r
  obtain ⟨v, l, rfl, r, w, l, rfl, r2, rfl⟩ := r
  exact ⟨v, w, rfl, r, r2⟩
theorem rel3 {X : List Addr} {h : Heap} {x y z : V} {avs : List Value} (r : VsRel X h [x, y, z] avs) : ∃ v w u, avs = [v, w, u] ∧ VRel X h x v ∧ VRel X h y w ∧ VRel X h z u := by
  simp only [VsRel] at r
  obtain ⟨v, l, rfl, r, w, l, rfl, r2, u, l, rfl, r3, rfl⟩ := r
  exact ⟨v, w, u, rfl, r, r2, r3⟩

-- methods
theorem wpm_list {l : Addr} {vs : List V} {name : Str} {id : String} (slot : Slot "list" name id) (ty : typeOf (.builtin id) = pure (.type "method_descriptor")) (hl : (l, AO.list vs) ∈ H) (q : QM (.bi id) [.ref l] H) :
    WPM C A (.ref l) name QM H := fun pl v s r R => by
  simp only [VRel] at r; subst r
  obtain ⟨items, pln, rvs⟩ := R.objs _ hl
  obtain ⟨n, e⟩ := pln
  exact getMethod_builtin ⟨_, e, rfl⟩ F.plainAttrs_list slot ty (fun a ha => by cases ha; exact ⟨_, e, rfl⟩) (post_id (x := (V.bi id, [V.ref l])) R ⟨rfl, .cons rfl .nil⟩ q)
theorem wpm_append {l : Addr} {vs : List V} (hl : (l, AO.list vs) ∈ H) (q : QM (.bi "list.append") [.ref l] H) : WPM C A (.ref l) "append" QM H := wpm_list slot_list_append type_list_append hl q
theorem wpm_pop {l : Addr} {vs : List V} (hl : (l, AO.list vs) ∈ H) (q : QM (.bi "list.pop") [.ref l] H) : WPM C A (.ref l) "pop" QM H := wpm_list F.slot_list_pop F.type_list_pop hl q
theorem wpm_reverse {l : Addr} {vs : List V} (hl : (l, AO.list vs) ∈ H) (q : QM (.bi "list.reverse") [.ref l] H) : WPM C A (.ref l) "reverse" QM H := wpm_list F.slot_list_reverse F.type_list_reverse hl q
theorem wpm_lcount {l : Addr} {vs : List V} (hl : (l, AO.list vs) ∈ H) (q : QM (.bi "list.count") [.ref l] H) : WPM C A (.ref l) "count" QM H := wpm_list F.slot_list_count F.type_list_count hl q
theorem wpm_bitlen {i : Int} (q : QM (.bi "int.bit_length") [.int i] H) : WPM C A (.int i) "bit_length" QM H := fun pl v s r R => by
  simp only [VRel] at r; obtain ⟨t, rfl⟩ := r
  exact getMethod_int_bit_length (post_id (x := (V.bi "int.bit_length", [V.int i])) R ⟨rfl, .cons ⟨t, rfl⟩ .nil⟩ q)
theorem wpm_join {x : Str} (q : QM (.bi "str.join") [.str x] H) : WPM C A (.str x) "join" QM H := fun pl v s r R => by
  simp only [VRel] at r; obtain ⟨t, rfl⟩ := r
  exact GM.join (post_id (x := (V.bi "str.join", [V.str x])) R ⟨rfl, .cons ⟨t, rfl⟩ .nil⟩ q)
theorem wpm_scount {x : Str} (q : QM (.bi "str.count") [.str x] H) : WPM C A (.str x) "count" QM H := fun pl v s r R => by
  simp only [VRel] at r; obtain ⟨t, rfl⟩ := r
  exact GM.count (post_id (x := (V.bi "str.count", [V.str x])) R ⟨rfl, .cons ⟨t, rfl⟩ .nil⟩ q)

theorem Rel.list_fz {s : Shared} {l : Addr} {vs : List V} {h' : Heap} (R : Rel C H s) (hl : (l, AO.list vs) ∈ H) (hs : Heap.SameBut l s.heap h') : Fz C.X s.heap h' :=
  fun a o e f => hs.extBut a o (fun q => R.notin e f (q ▸ List.mem_map_of_mem (f := Prod.fst) hl)) e

theorem c_append {l : Addr} {vs : List V} {x : V} (hu : Upd l (.list vs) (.list (vs ++ [x])) H H') (hz : vs.length ≤ 100000) (q : Q .none H') : WPC C A (.bi "list.append") [.ref l, x] Q H := wpc_bi fun avs s ra R => by
  obtain ⟨v, w, rfl, r1, r2⟩ := rel2 ra
  simp only [VRel] at r1; subst r1
  obtain ⟨items, pl, rvs⟩ := R.objs _ hu.mem
  have hlen := rvs.length
  refine wpAny_list_append_plain pl (fun h' pl' hs => ?_) (by rw [← Array.length_toList, hlen, sizeLine_eq]; lia)
  have hf := R.list_fz hu.mem hs
  obtain ⟨R', k'⟩ := R.upd hu (h' := h') (t := s.toks) (fun b o n e => hs.extBut b o n e) ⟨_, pl', by rw [Array.toList_push]; exact (rvs.fz hf).append (.cons (r2.fz hf) .nil)⟩
  exact ⟨.none, H', q, rfl, R', k'⟩
theorem c_pop0 {l : Addr} {vs : List V} {x : V} (hu : Upd l (.list (x :: vs)) (.list vs) H H') (hz : vs.length ≤ 100000) (q : Q x H') : WPC C A (.bi "list.pop") [.ref l, .int 0] Q H := wpc_bi fun avs s ra R => by
  obtain ⟨v, w, rfl, r1, r2⟩ := rel2 ra
  simp only [VRel] at r1 r2; subst r1; obtain ⟨t, rfl⟩ := r2
  obtain ⟨items, ⟨n, e⟩, rvs⟩ := R.objs _ hu.mem
  have hlen := rvs.length
  have hsz : items.size = vs.length + 1 := by rw [← Array.length_toList, hlen]; rfl
  obtain ⟨y, hy, ry⟩ := rvs.get (i := 0) (u := x) rfl
  refine call_meets F.slot_list_pop ⟨_, e, rfl⟩ F.entry_list_pop (F.args_list_pop_2 _ _) (MeetsSeq.list_pop_at l items n 0 t 0 y (fitsIndex_of (by decide) (by decide)) (by unfold seqIndex?; simp [hsz]) (by simpa using hy) (by rw [hsz, sizeLine_eq]; lia)) ⟨e, ?_⟩
  obtain ⟨pl', hs⟩ := upd_plain (fun xs => xs.eraseIdxIfInBounds 0) e
  have hf := R.list_fz hu.mem hs
  have he : (items.eraseIdxIfInBounds 0).toList = items.toList.tail := by
    have : 0 < items.size := by lia
    simp [Array.eraseIdxIfInBounds, this]
  obtain ⟨R', k'⟩ := R.upd hu (h' := _) (t := s.toks) (fun b o n e => hs.extBut b o n e) ⟨_, pl', by
    rw [he]
    have := rvs.fz hf
    simp only [VsRel] at this
    obtain ⟨v, l, e1, _, r⟩ := this
    rw [e1]; exact r⟩
  exact ⟨x, H', q, ry.fz hf, R', k'⟩
theorem c_reverse {l : Addr} {vs : List V} (hu : Upd l (.list vs) (.list vs.reverse) H H') (hz : vs.length ≤ 100000) (q : Q .none H') : WPC C A (.bi "list.reverse") [.ref l] Q H := wpc_bi fun avs s ra R => by
  obtain ⟨v, rfl, r1⟩ := rel1 ra
  simp only [VRel] at r1; subst r1
  obtain ⟨items, ⟨n, e⟩, rvs⟩ := R.objs _ hu.mem
  have hlen := rvs.length
  refine call_meets F.slot_list_reverse ⟨_, e, rfl⟩ F.entry_list_reverse (F.args_list_reverse_1 _) (AutoSeq1.list_reverse_list_0 l items n (by rw [← Array.length_toList, hlen, sizeLine_eq]; lia)) ⟨e, ?_⟩
  obtain ⟨pl', hs⟩ := upd_plain (fun xs => xs.reverse) e
  have hf := R.list_fz hu.mem hs
  obtain ⟨R', k'⟩ := R.upd hu (h' := _) (t := s.toks) (fun b o n e => hs.extBut b o n e) ⟨_, pl', by
    rw [Array.toList_reverse]
    refine VsRel.of_get (by simp [hlen]) fun i u hu' => ?_
    have hi : i < vs.length := by
      have := (List.getElem?_eq_some_iff.mp hu').1; simpa using this
    rw [List.getElem?_reverse hi] at hu'
    obtain ⟨v, hv, rv⟩ := (rvs.fz hf).get hu'
    exact ⟨v, by rw [List.getElem?_reverse (by rw [hlen]; exact hi), hlen]; exact hv, rv⟩⟩
  exact ⟨.none, H', q, rfl, R', k'⟩
theorem c_lcount {l : Addr} {ys : List Str} {k : Str} (hl : (l, AO.list (ys.map V.str)) ∈ H) (q : Q (.int (ys.countP (· == k) : Nat)) H) : WPC C A (.bi "list.count") [.ref l, .str k] Q H := wpc_bi fun avs s ra R => by
  obtain ⟨v, w, rfl, r1, r2⟩ := rel2 ra
  simp only [VRel] at r1 r2; subst r1; obtain ⟨t, rfl⟩ := r2
  obtain ⟨items, ⟨n, e⟩, rvs⟩ := R.objs _ hl
  have hs := strsAre_of rvs
  have hc : ∀ {vs : List Value} {ys : List Str}, StrsAre vs ys → vs.countP (isStrOf k) = ys.countP (· == k) := by
    intro vs ys h
    induction h with
    | nil => rfl
    | cons n u h ih => simp only [List.countP_cons, ih]; rfl
  refine call_meets F.slot_list_count ⟨_, e, rfl⟩ F.entry_list_count (F.args_list_count_2 _ _) (MeetsSeq.list_count l items n (.str k t) (isStrOf k) (fun y hy => eq_isStrOf k t hs y (by simpa using hy))) ⟨e, ?_⟩
  rw [hc hs]
  exact post_tk (s := s) (x := V.int _) R ⟨_, rfl⟩ q

-- builtins
theorem c_bitlen {i : Int} (q : Q (.int (Builtin.Int.intBits i : Nat)) H) : WPC C A (.bi "int.bit_length") [.int i] Q H := wpc_bi fun avs s ra R => by
  obtain ⟨v, rfl, r1⟩ := rel1 ra
  simp only [VRel] at r1; obtain ⟨t, rfl⟩ := r1
  exact call_int_bit_length (post_tk (s := s) (x := V.int _) R ⟨_, rfl⟩ q)
theorem c_len_list {l : Addr} {vs : List V} (hl : (l, AO.list vs) ∈ H) (hz : vs.length ≤ 100000) (q : Q (.int (vs.length : Nat)) H) : WPC C A (.bi "len") [.ref l] Q H := wpc_bi fun avs s ra R => by
  obtain ⟨v, rfl, r1⟩ := rel1 ra
  simp only [VRel] at r1; subst r1
  obtain ⟨items, pl, rvs⟩ := R.objs _ hl
  have hlen := rvs.length
  simp only [Array.length_toList] at hlen
  exact Calls.call_len_list (PlainList.isList pl) (by lia) (post_tk (s := s) (x := V.int _) R (by rw [hlen]; exact ⟨_, rfl⟩) q)
theorem c_abs {i : Int} (q : Q (.int i.natAbs) H) : WPC C A (.bi "abs") [.int i] Q H := wpc_bi fun avs s ra R => by
  obtain ⟨v, rfl, r1⟩ := rel1 ra
  simp only [VRel] at r1; obtain ⟨t, rfl⟩ := r1
  refine call_abs_int fun u tk => post_tk (s := s) (x := V.int _) R ?_ q
  have : (i.natAbs : Int) = if i < 0 then -i else i := by split <;> lia
  rw [this]; exact ⟨_, rfl⟩
theorem c_int {i : Int} (q : Q (.int i) H) : WPC C A (.ty "int") [.int i] Q H := wpc_ty fun avs s ra R => by
  obtain ⟨v, rfl, r1⟩ := rel1 ra
  simp only [VRel] at r1; obtain ⟨t, rfl⟩ := r1
  exact call_int_int (post_id (x := V.int i) R ⟨_, rfl⟩ q)
theorem c_divmod {a b : Int} (hb : b ≠ 0) (hp : Builtin.divisionGoesByPylong a b = false) (q : Q (.tup [.int (a.fdiv b), .int (a.fmod b)]) H) : WPC C A (.bi "divmod") [.int a, .int b] Q H := wpc_bi fun avs s ra R => by
  obtain ⟨v, w, rfl, r1, r2⟩ := rel2 ra
  simp only [VRel] at r1 r2; obtain ⟨t, rfl⟩ := r1; obtain ⟨u, rfl⟩ := r2
  refine divmod_int hb ?_ (.inl hp)
  refine post_ext (s := s) (x := V.tup [.int (a.fdiv b), .int (a.fmod b)]) R (fun b o e => Heap.get?_push_of_some _ e) ?_ q
  simp only [VRel]
  exact ⟨_, _, rfl, fun hX => let ⟨_, o, e⟩ := R.xl _ hX; Nat.lt_irrefl _ (Heap.lt_size e), ⟨_, Heap.get?_push_size _ rfl, rfl, 0, rfl⟩, .cons ⟨_, rfl⟩ (.cons ⟨_, rfl⟩ .nil)⟩
theorem c_chr {i : Int} (h0 : 0 ≤ i) (h1 : i ≤ 1114111) (q : Q (.str ⟨#[i.toNat]⟩) H) : WPC C A (.bi "chr") [.int i] Q H := wpc_bi fun avs s ra R => by
  obtain ⟨v, rfl, r1⟩ := rel1 ra
  simp only [VRel] at r1; obtain ⟨t, rfl⟩ := r1
  exact chr_of_range h0 h1 (post_tk (s := s) (x := V.str _) R ⟨_, rfl⟩ q)
theorem c_ord {c : Nat} (q : Q (.int c) H) : WPC C A (.bi "ord") [.str ⟨#[c]⟩] Q H := wpc_bi fun avs s ra R => by
  obtain ⟨v, rfl, r1⟩ := rel1 ra
  simp only [VRel] at r1; obtain ⟨t, rfl⟩ := r1
  exact P.ord_of_char (post_tk (s := s) (x := V.int _) R ⟨_, rfl⟩ q)
theorem c_join {l : Addr} {x : Str} {ys : List Str} (hl : (l, AO.list (ys.map V.str)) ∈ H) (hok : (ys.map (·.length)).sum + ys.length * x.length ≤ 100000) (q : Q (.str (Txt.join x ys)) H) : WPC C A (.bi "str.join") [.str x, .ref l] Q H := wpc_bi fun avs s ra R => by
  obtain ⟨v, w, rfl, r1, r2⟩ := rel2 ra
  simp only [VRel] at r1 r2; subst r2; obtain ⟨t, rfl⟩ := r1
  obtain ⟨items, pl, rvs⟩ := R.objs _ hl
  exact join_list (PlainList.isList pl) (strsAre_of rvs) (by lia) fun t' k => post_tk (s := s) (x := V.str _) R ⟨_, rfl⟩ q
end
end
noncomputable section
section
variable {C C' : Cfg} {gl : List (Str × V)} {A : Around} {env : Env} {pos tpos : Pos} {H H' : AH} {Q : V → AH → Prop} {QF : Fl → AH → Prop} {QB : Bool → AH → Prop} {QU : Unit → AH → Prop}
variable {QM : V → List V → AH → Prop}

theorem c_list_str {x : Str} (hA : A.handled = none) (hz : x.length ≤ 100000) (q : ∀ a, Q (.ref a) ((a, .list (x.cps.toList.map fun c => V.str ⟨#[c]⟩)) :: H)) : WPC C A (.ty "list") [.str x] Q H := wpc_ty fun avs s ra R => by
  obtain ⟨v, rfl, r1⟩ := rel1 ra
  simp only [VRel] at r1; obtain ⟨t, rfl⟩ := r1
  refine call_list_str hA x t (fun h' tk acc c ext e hit => ?_) (by rw [sizeLine_eq]; have : x.cps.size = x.length := rfl; lia)
  refine ⟨_, _, q _, rfl, R.add ext (Nat.le_refl _) ⟨acc, ⟨c, e⟩, ?_⟩, kept_add ext (Nat.le_refl _)⟩
  refine VsRel.of_get (by simp [hit.1]) fun i u hu => ?_
  rw [List.getElem?_map] at hu
  obtain ⟨k, hk, rfl⟩ := Option.map_eq_some_iff.mp hu
  have hlt := (List.getElem?_eq_some_iff.mp hk).1
  have hlt' : i < acc.size := by rw [hit.1]; simpa using hlt
  obtain ⟨c', u', hc, hv⟩ := hit.2 i acc[i] (Array.getElem?_eq_getElem hlt')
  refine ⟨acc[i], by simp [hlt'], ?_⟩
  simp only [VRel]
  have : c' = k := by
    have h1 : x.cps.toList[i]? = some c' := by simpa using hc
    rw [hk] at h1; exact (Option.some.inj h1).symm
  rw [hv, this]; exact ⟨u', rfl⟩

theorem c_scount {x y : Str} (q : Q (.int (Builtin.Str.occurrences x y 0 x.length (x.length + 1)).length) H) : WPC C A (.bi "str.count") [.str x, .str y] Q H := wpc_bi fun avs s ra R => by
  obtain ⟨v, w, rfl, r1, r2⟩ := rel2 ra
  simp only [VRel] at r1 r2; obtain ⟨t, rfl⟩ := r1; obtain ⟨u, rfl⟩ := r2
  exact call_meets F.slot_str_count (typeIs_str s x t) F.entry_str_count (F.args_str_count_2 _ _) (gives_str_count x y t u).meets (post_tk (s := s) (x := V.int _) R ⟨_, rfl⟩ q)

theorem op_add_list {l m : Addr} {vs us : List V} (hl : (l, AO.list vs) ∈ H) (hm : (m, AO.list us) ∈ H) (hz : vs.length + us.length ≤ 100000) (q : ∀ a, Q (.ref a) ((a, .list (vs ++ us)) :: H)) :
    Op2 C A (VRel C.X) (binaryOp .Add) (.ref l) (.ref m) Q H := fun v w s r1 r2 R => by
  simp only [VRel] at r1 r2; subst r1 r2
  obtain ⟨items, ⟨n, e⟩, rvs⟩ := R.objs _ hl
  obtain ⟨items2, ⟨n2, e2⟩, rvs2⟩ := R.objs _ hm
  have hlen := rvs.length
  have hlen2 := rvs2.length
  simp only [Array.length_toList] at hlen hlen2
  have ext : ∀ b o, s.heap.get? b = some o → (s.heap.push { cls := .type "list", data := .seq (items ++ items2) }).get? b = some o := fun b o e => Heap.get?_push_of_some _ e
  exact P.add_list e e2 ⟨_, _, q _, rfl, R.add (t := s.toks) ext (Nat.le_refl _) ⟨_, ⟨0, Heap.get?_push_size _ rfl⟩, by rw [Array.toList_append]; exact (rvs.fz (fz_of_ext ext)).append (rvs2.fz (fz_of_ext ext))⟩, kept_add (t := s.toks) ext (Nat.le_refl _)⟩ (by rw [sizeLine_eq]; lia)

theorem foldl_app (x : Value) : ∀ (n : Nat) (acc : Array Value), (List.foldl (fun x1 x2 => x1 ++ x2) acc (List.replicate n #[x])).toList = acc.toList ++ List.replicate n x
  | 0, acc => by simp
  | n + 1, acc => by
    rw [List.replicate_succ, List.foldl_cons, foldl_app x n, List.replicate_succ]
    simp
theorem rep_rel {X : List Addr} {h : Heap} {v : V} {w : Value} (r : VRel X h v w) : ∀ n, VsRel X h (List.replicate n v) (List.replicate n w)
  | 0 => VsRel.nil
  | n + 1 => by rw [List.replicate_succ, List.replicate_succ]; exact .cons r (rep_rel r n)
theorem op_mul_list {l : Addr} {v : V} {k : Int} (hl : (l, AO.list [v]) ∈ H) (h0 : 0 ≤ k) (hz : k ≤ 100000) (q : ∀ a, Q (.ref a) ((a, .list (List.replicate k.toNat v)) :: H)) :
    Op2 C A (VRel C.X) (binaryOp .Mult) (.ref l) (.int k) Q H := fun vv w s r1 r2 R => by
  simp only [VRel] at r1 r2; subst r1; obtain ⟨u, rfl⟩ := r2
  obtain ⟨items, ⟨n, e⟩, rvs⟩ := R.objs _ hl
  simp only [VsRel] at rvs
  obtain ⟨y, l', hi, ry, rfl⟩ := rvs
  obtain rfl : items = #[y] := by cases items; simpa using hi
  refine wpAny_binaryOp_repeat_ref (T := "list") (U := "int") (by decide) ⟨_, e, rfl⟩ (fun s' => typeIs_int s' k u) noFill_list_mul F.fills_int_mul F.slot_int_rmul repeat_list F.slot_int_index.lookup
    (call_meets F.slot_int_rmul (typeIs_int s k u) F.entry_int_rmul (F.args_int_rmul_2 _ _) (int___rmul___int_list k u l #[y] n)
      ⟨e, rfl, ⟨_, e, rfl⟩, call_meets F.slot_list_mul ⟨_, e, rfl⟩ F.entry_list_mul (F.args_list_mul_2 _ _)
        (AutoListH.list___mul___list_int_3 l #[y] n k u (by simp [Builtin.List.listFitsIndex]; lia) (by simp; lia) (by simp [Builtin.List.listTooLong, sizeLine]; lia)) ⟨e, ?_⟩⟩)
  generalize hD : (List.foldl (fun x1 x2 => x1 ++ x2) #[] (List.replicate (if (#[y] : Array Value).isEmpty = true then 0 else k.toNat) #[y])) = D
  have ext : ∀ b o, s.heap.get? b = some o → (s.heap.push { cls := .type "list", data := .seq D }).get? b = some o := fun b o e => Heap.get?_push_of_some _ e
  refine ⟨_, _, q _, rfl, R.add (t := s.toks) ext (Nat.le_refl _) ⟨D, ⟨0, Heap.get?_push_size _ rfl⟩, ?_⟩, kept_add (t := s.toks) ext (Nat.le_refl _)⟩
  have hDl : D.toList = List.replicate k.toNat y := by rw [← hD, foldl_app]; simp
  rw [hDl]
  exact rep_rel (ry.fz (fz_of_ext ext)) k.toNat

-- items
theorem gi_list_neg {l : Addr} {vs : List V} {i : Int} {v : V} (hl : (l, AO.list vs) ∈ H) (h0 : i < 0) (h1 : -(vs.length : Int) ≤ i) (hx : vs[(i + vs.length).toNat]? = some v) (hz : vs.length ≤ 100000) (q : Q v H) : GI C A (.ref l) (.int i) Q H := fun o iv s ro ri R => by
  simp only [VRel] at ro ri; subst ro; obtain ⟨t, rfl⟩ := ri
  obtain ⟨items, pl, rvs⟩ := R.objs _ hl
  have hlen := rvs.length
  simp only [Array.length_toList] at hlen
  obtain ⟨w, hw, rw⟩ := rvs.get hx
  exact ⟨_, _, slot_list_getitem.lookup, (PlainList.isList pl).typeIs, wpAny_getItem_list_neg (PlainList.isList pl) h0 (by rw [hlen]; exact h1) (by lia) (by rw [hlen]; simpa using hw) (post_id R rw q)⟩
theorem gi_str {x : Str} {i : Int} {c : Nat} (h0 : 0 ≤ i) (hz : x.length ≤ 100000) (hx : x.cps.toList[i.toNat]? = some c) (q : Q (.str ⟨#[c]⟩) H) : GI C A (.str x) (.int i) Q H := fun o iv s ro ri R => by
  simp only [VRel] at ro ri; obtain ⟨u, rfl⟩ := ro; obtain ⟨t, rfl⟩ := ri
  have hlt : i.toNat < x.length := by have := (List.getElem?_eq_some_iff.mp hx).1; show i.toNat < x.cps.size; simpa using this
  have e : seqIndex? i x.length = some i.toNat := by
    unfold seqIndex?
    have hn : ¬ i < 0 := by lia
    have h1 : i < (x.length : Int) := by lia
    simp [hn, h0, h1]
  exact ⟨_, _, F.slot_str_getitem.lookup, typeIs_str _ _ _, P.getItem_str (by simp; lia) (by rw [e]; simpa using hx) (post_tk (s := s) (x := V.str _) R ⟨_, rfl⟩ q)⟩
theorem gs_bytes {b : Array UInt8} {lo hi : Option Int} (hz : b.size ≤ 100000) (q : Q (.bytes (KBy.picked b lo hi)) H) : GS C A (.bytes b) lo hi none Q H := fun o sl vl vu vst s ro hs p1 p2 p3 R => by
  simp only [VRel] at ro; obtain ⟨t, rfl⟩ := ro
  cases p3
  exact ⟨"bytes", _, FB.slot_bytes_getitem.lookup, typeIs_bytes _ _ _, getItem_meets (typeIs_bytes _ _ _) (by decide) FB.slot_bytes_getitem FB.entry_bytes_getitem (FB.args_bytes_getitem_2 _ _) (KBc.meets_slice2 b t _ p1 p2)
    ⟨hs, Nat.le_trans (KBc.size_picked_le b lo hi) (by rw [sizeLine_eq]; lia), fun t' k => post_tk (s := s) (x := V.bytes _) R ⟨_, rfl⟩ q⟩⟩
theorem IsPart.val {v : Value} {o : Option Int} (p : IsPart v o) : ∃ l : Option (Int × Tok), v = partValue l ∧ l.map (·.1) = o := by
  cases p with
  | none => exact ⟨none, rfl, rfl⟩
  | int i t => exact ⟨some (i, t), rfl, rfl⟩
theorem gs_str {x y : Str} {lo hi st : Option Int} (h0 : (st.getD 1 == 0) = false) (hz : x.length ≤ 100000) (hy : y = ⟨((Builtin.Str.strSliceIndices lo hi (st.getD 1) x.length).filterMap (x.cps[·]?)).toArray⟩) (hle : (Builtin.Str.strSliceIndices lo hi (st.getD 1) x.length).length ≤ x.length)
    (hw : (st.getD 1 == 1 && (Builtin.Str.strSliceIndices lo hi (st.getD 1) x.length).length == x.length) = true → y = x) (q : Q (.str y) H) : GS C A (.str x) lo hi st Q H := fun o sl vl vu vst s ro hs p1 p2 p3 R => by
  simp only [VRel] at ro; obtain ⟨t, rfl⟩ := ro
  obtain ⟨l1, rfl, e1⟩ := IsPart.val p1
  obtain ⟨l2, rfl, e2⟩ := IsPart.val p2
  obtain ⟨l3, rfl, e3⟩ := IsPart.val p3
  subst e1 e2 e3
  refine ⟨_, _, F.slot_str_getitem.lookup, typeIs_str _ _ _, wpAny_getItem_str_slice (l := l1) (u := l2) (st := l3) hs h0 ?_⟩
  unfold sliceMade slicePicked
  split
  · rename_i hc
    have := hw hc
    exact post_id (x := V.str y) R (by simp only [VRel]; rw [this]; exact ⟨_, rfl⟩) q
  · refine ⟨?_, post_tk (s := s) (x := V.str y) R (by simp only [VRel]; rw [hy]; exact ⟨_, rfl⟩) q⟩
    have h2 := List.length_filterMap_le (x.cps[·]?) (Builtin.Str.strSliceIndices (l1.map (·.1)) (l2.map (·.1)) ((l3.map (·.1)).getD 1) x.length)
    show (List.filterMap _ _).toArray.size ≤ sizeLine
    rw [List.size_toArray, sizeLine_eq]; lia

theorem set_list {l : Addr} {vs : List V} {i : Int} {x : V} (hu : Upd l (.list vs) (.list (vs.set i.toNat x)) H H') (h0 : 0 ≤ i) (h1 : i < vs.length) (hz : vs.length ≤ 100000) (q : QU () H') : Op3 C A URel setItem (.ref l) (.int i) x QU H := fun ov iv w s ro ri rx R => by
  simp only [VRel] at ro ri; subst ro; obtain ⟨t, rfl⟩ := ri
  obtain ⟨items, ⟨n, e⟩, rvs⟩ := R.objs _ hu.mem
  have hlen := rvs.length
  simp only [Array.length_toList] at hlen
  have hT : s.TypeIs (.ref l) "list" := ⟨_, e, rfl⟩
  unfold setItem
  try with_reducible refine wpAny_holding ?_
  first | refine wpAny_bind (wpAny_pure ?_) | skip
  refine wpAny_bind (wpAny_sequenceKey hT (by decide) ?_)
  refine wpAny_bind (wpAny_callSpecial?_slot (name := Str.ofString "__setitem__") hT slot_list_setitem
    (wpAny_call_entry slot_list_setitem hT entry_list_setitem ?_ (args_list_setitem _ _ _)))
  show wpAny _ _ (Builtin.List.listSubscript? (.int i t) >>= _) _ _ s
  refine wpAny_bind (wpAny_listSubscript_int (fitsIndex_of h0 (by lia)) ?_)
  obtain ⟨j, rfl⟩ := Int.eq_ofNat_of_zero_le h0
  have hj : j < items.size := by lia
  have hx' : items[j]? = some items[j] := Array.getElem?_eq_getElem hj
  show wpAny _ _ ((seqItemAt l j >>= fun r => pure (r.map (j, ·))) >>= _) _ _ s
  refine wpAny_bind (wpAny_bind (wpAny_seqItemAt e rfl (wpAny_pure ?_)))
  rw [hx']
  show wpAny _ _ (setSeqItemAt l j w >>= _) _ _ s
  refine wpAny_bind (wpAny_setSeqItemAt e rfl ?_)
  obtain ⟨pl', hs⟩ := upd_plain (fun xs => xs.setIfInBounds j w) e
  have hf := R.list_fz hu.mem hs
  obtain ⟨R', k'⟩ := R.upd hu (h' := _) (t := s.toks) (fun b o n e => hs.extBut b o n e) ⟨_, pl', by
    refine VsRel.of_get (by simp [hlen]) fun k u hu' => ?_
    rw [Array.toList_setIfInBounds]
    simp only [Int.toNat_natCast] at hu'
    rw [List.getElem?_set] at hu'
    rw [List.getElem?_set]
    split at hu'
    · rename_i hjk
      rw [if_pos hjk, if_pos (by simpa using hj)]
      rw [if_pos (by lia)] at hu'
      cases hu'
      exact ⟨w, rfl, rx.fz hf⟩
    · rename_i hjk
      rw [if_neg hjk]
      exact (rvs.fz hf).get hu'⟩
  have fin : Post C URel QU H s () { s with heap := s.heap.update l (Obj.mapSeq fun xs => xs.setIfInBounds j w) } := ⟨(), H', q, trivial, R', k'⟩
  first
    | exact wpAny_bind (wpAny_pure (wpAny_pure ⟨.none, rfl, wpAny_pure fin⟩))
    | exact wpAny_pure ⟨.none, rfl, wpAny_pure fin⟩

-- equality, deep
mutual
noncomputable def DRel (H : AH) : PyData → V → Prop
  | .none, v => v = .none
  | .bool b, v => v = .bool b
  | .int i, v => v = .int i
  | .str x, v => v = .str x
  | .list ds, v => ∃ a vs, v = .ref a ∧ (a, AO.list vs) ∈ H ∧ DsRel H ds vs
  | .tuple ds, v => ∃ vs, v = .tup vs ∧ DsRel H ds vs
  | .dict _, _ => False
noncomputable def DsRel (H : AH) : List PyData → List V → Prop
  | [], l => l = []
  | d :: ds, l => ∃ v r, l = v :: r ∧ DRel H d v ∧ DsRel H ds r
end
mutual
theorem DRel.reads {s : Shared} (R : Rel C H s) : ∀ {d : PyData} {v : V} {w : Value}, DRel H d v → VRel C.X s.heap v w → ∃ as, Reads s.heap w d as
  | .none, _, _, h, r => by simp only [DRel] at h; subst h; simp only [VRel] at r; subst r; exact ⟨_, .none⟩
  | .bool b, _, _, h, r => by simp only [DRel] at h; subst h; simp only [VRel] at r; subst r; exact ⟨_, .bool b⟩
  | .int b, _, _, h, r => by simp only [DRel] at h; subst h; simp only [VRel] at r; obtain ⟨t, rfl⟩ := r; exact ⟨_, .int b t⟩
  | .str b, _, _, h, r => by simp only [DRel] at h; subst h; simp only [VRel] at r; obtain ⟨t, rfl⟩ := r; exact ⟨_, .str b t⟩
  | .list ds, _, _, h, r => by
    simp only [DRel] at h
    obtain ⟨a, vs, rfl, hm, hd⟩ := h
    simp only [VRel] at r; subst r
    obtain ⟨items, ⟨n, e⟩, rvs⟩ := R.objs _ hm
    obtain ⟨as, q⟩ := DsRel.reads R hd rvs
    exact ⟨_, reads_list_at e rfl rfl q⟩
  | .tuple ds, _, _, h, r => by
    simp only [DRel] at h
    obtain ⟨vs, rfl, hd⟩ := h
    simp only [VRel] at r
    obtain ⟨a, items, rfl, _, ⟨o, e, hc, n, ho⟩, rvs⟩ := r
    obtain ⟨as, q⟩ := DsRel.reads R hd rvs
    exact ⟨_, reads_tuple_at e hc ho q⟩
  | .dict _, _, _, h, _ => by simp only [DRel] at h
theorem DsRel.reads {s : Shared} (R : Rel C H s) : ∀ {ds : List PyData} {vs : List V} {ws : List Value}, DsRel H ds vs → VsRel C.X s.heap vs ws → ∃ as, ReadsAll s.heap ws ds as
  | [], _, _, h, r => by simp only [DsRel] at h; subst h; simp only [VsRel] at r; subst r; exact ⟨_, .nil⟩
  | d :: ds, _, _, h, r => by
    simp only [DsRel] at h
    obtain ⟨v, vs, rfl, h1, h2⟩ := h
    simp only [VsRel] at r
    obtain ⟨w, ws, rfl, r1, r2⟩ := r
    obtain ⟨as, q1⟩ := DRel.reads R h1 r1
    obtain ⟨bs, q2⟩ := DsRel.reads R h2 r2
    exact ⟨_, .cons q1 q2⟩
end
theorem op_eq_data {d e : PyData} {x y : V} (hd : DRel H d x) (he : DRel H e y) (s1 : SeqAt.shaped d = true) (s2 : SeqAt.shaped e = true) (hu : A.units + 64 < cLine) (q : Q (.bool (PyData.eqv d e)) H) :
    Op2 C A (VRel C.X) (compareOp .Eq) x y Q H := fun v w s r1 r2 R => by
  obtain ⟨as, q1⟩ := hd.reads R r1
  obtain ⟨bs, q2⟩ := he.reads R r2
  exact eq_dataH q1 q2 s1 s2 hu (post_id (x := V.bool _) R rfl q)
theorem op_ne_data {d e : PyData} {x y : V} (hd : DRel H d x) (he : DRel H e y) (s1 : SeqAt.shaped d = true) (s2 : SeqAt.shaped e = true) (hu : A.units + 64 < cLine) (q : Q (.bool (!PyData.eqv d e)) H) :
    Op2 C A (VRel C.X) (compareOp .NotEq) x y Q H := fun v w s r1 r2 R => by
  obtain ⟨as, q1⟩ := hd.reads R r1
  obtain ⟨bs, q2⟩ := he.reads R r2
  exact ne_dataH q1 q2 s1 s2 hu (post_id (x := V.bool _) R rfl q)
end
end
noncomputable section
section
variable {C C' : Cfg} {gl : List (Str × V)} {A : Around} {env : Env} {pos tpos : Pos} {target : Expr} {H H' : AH} {Q : V → AH → Prop} {QF : Fl → AH → Prop} {QB : Bool → AH → Prop} {QU : Unit → AH → Prop}
variable {QM : V → List V → AH → Prop} {QI : Cfg → (Nat → AH → Option V → Prop) → AH → Prop}

-- ranges
theorem ne_add {l n : Nat} (k : Nat) (h : l < n) : l ≠ n + k := by omega
theorem ne_add' {l n : Nat} (h : l < n) : l ≠ n := by omega
theorem add_ne (n k : Nat) (h : k ≠ 0) : n + k ≠ n := by omega
theorem zip_new {n b : Nat} (h : b ∈ [n + 4, n + 2, n + 3, n, n + 1]) : n ≤ b := by simp at h; omega
theorem zip_newW {n b : Nat} (h : b ∈ [n + 4, n + 3, n, n + 1]) : n ≤ b := by simp at h; omega
theorem zipApart_new {n l1 l2 : Nat} (h1 : l1 < n) (h2 : l2 < n) : ZipApart (n + 4) (n + 2) (n + 3) n (n + 1) l1 l2 := by
  constructor <;> (intro h; have h' : @Eq Nat _ _ := h; omega)
theorem rangeSize_le {a b c : Int} (h0 : c ≠ 0) : Builtin.Range.rangeSize a b c ≤ (b - a).natAbs + 1 := by
  unfold Builtin.Range.rangeSize
  split <;> split
  · have := Int.ediv_le_self (a := b - a - 1) c (by omega); omega
  · omega
  · have := Int.ediv_le_self (a := a - b - 1) (-c) (by omega); omega
  · omega
theorem fitsLong {i : Int} (h : i.natAbs < 2 ^ 62) : Builtin.Range.rangeFitsLong i = true := by
  unfold Builtin.Range.rangeFitsLong
  simp only [Bool.and_eq_true, decide_eq_true_eq]
  omega
theorem range_small {a b c : Int} (h0 : c ≠ 0) (h1 : a.natAbs < 2 ^ 60) (h2 : b.natAbs < 2 ^ 60) (h3 : c.natAbs < 2 ^ 60) : Builtin.Range.small a b c = true := by
  have h4 := rangeSize_le (a := a) (b := b) h0
  have h5 := rangeSize_nonneg (a := a) (b := b) h0
  unfold Builtin.Range.small
  rw [fitsLong (i := a) (by omega), fitsLong (i := b) (by omega), fitsLong (i := c) (by omega), fitsLong (i := Builtin.Range.rangeSize a b c) (by omega), fitsLong (i := b + (c - 1)) (by omega), fitsLong (i := b + (c + 1)) (by omega)]
  simp
theorem ci_call {fv : Value} {args : List V} (hnr : ∀ a, fv ≠ .ref a) {f : V} (hf : ∀ X h v, VRel X h f v → v = fv)
    (h : ∀ avs s, VsRel C.X s.heap args avs → Rel C H s → wpAny (model C.prog C.w) A (call fv avs) (fun v s₁ => wpAny (model C.prog C.w) A (pyIter v) (ItPost C A target QI H s) NoE s₁) NoE s) : CI C A target f args QI H := fun v avs s r ra R => by
  have := hf _ _ _ r; subst this
  exact ⟨keeps_nr hnr, h avs s ra R⟩
theorem ty_eq {n : String} : ∀ X h v, VRel X h (V.ty n) v → v = .type n := fun _ _ _ r => by simpa only [VRel] using r
theorem ty_nr {n : String} : ∀ a, Value.type n ≠ .ref a := fun _ e => nomatch e
theorem ci_range1 {n : Int} (hA : A.handled = none) (hn : n.natAbs < 2 ^ 60) (q : QI C (rangeItem 0 n 1) H) : CI C A target (.ty "range") [.int n] QI H := ci_call ty_nr ty_eq fun avs s ra R => by
  obtain ⟨v, rfl, r1⟩ := rel1 ra
  simp only [VRel] at r1; obtain ⟨t, rfl⟩ := r1
  refine call_range_1 ?_
  exact iter_range (s₀ := s) (t := s.toks) (u := t) (v := s.toks + 1) hA (by decide) (range_small (by decide) (by decide) hn (by decide)) R (fun b o e => Heap.get?_push_of_some _ e) (by rw [Heap.size_push]; omega) ⟨_, _, rfl⟩ (Heap.get?_push_size _ rfl) q
theorem ci_range3 {a b c : Int} (hA : A.handled = none) (ha : a.natAbs < 2 ^ 60) (hn : b.natAbs < 2 ^ 60) (hc : c ≠ 0) (hc' : c.natAbs < 1073741824) (q : QI C (rangeItem a b c) H) : CI C A target (.ty "range") [.int a, .int b, .int c] QI H := ci_call ty_nr ty_eq fun avs s ra R => by
  obtain ⟨v, w, x, rfl, r1, r2, r3⟩ := rel3 ra
  simp only [VRel] at r1 r2 r3; obtain ⟨t, rfl⟩ := r1; obtain ⟨u, rfl⟩ := r2; obtain ⟨y, rfl⟩ := r3
  refine call_range_3 hc ?_ (.inl (PyProof.noPylong_small hc'))
  exact iter_range (s₀ := s) (t := t) (u := u) (v := y) hA hc (range_small hc ha hn (by omega)) R (fun b o e => Heap.get?_push_of_some _ e) (by rw [Heap.size_push]; omega) ⟨_, _, rfl⟩ (Heap.get?_push_size _ rfl) q

-- a str's signs, a bytes' figures
noncomputable abbrev signItem (x : Str) := fnItem x.length (fun i => .str ⟨#[x.cps.getD i 0]⟩)
theorem pi_str {x : Str} (hA : A.handled = none) (q : QI C (signItem x) H) : PI C A target (.str x) QI H := fun v s rv R => by
  simp only [VRel] at rv; obtain ⟨t, rfl⟩ := rv
  refine wpAny_pyIter_strU ?_
  have go : ∀ (T : String) (W : Walks C.prog C.w A s.heap.objs.size [s.heap.objs.size] [s.heap.objs.size] x.cps.size (SignAt x) (fun i h => h.IsStrIter s.heap.objs.size T x t i)), T ≠ "tuple" → T ≠ "code" →
      ["enumerate", "zip", "dict_itemiterator", "dict_reverseitemiterator", "odict_iterator", "itertools.zip_longest", "itertools.pairwise"].contains T = false →
      ItPost C A target QI H s (.ref s.heap.objs.size) { s with heap := s.heap.push { cls := .type T, data := .fields #[.str x t, .int 0 0] } } := fun T W h1 h2 h3 =>
    itPost_one (tk := s.toks) R (fun _ _ e => e) (Nat.le_refl _) (src_walks (f := fun i => .str ⟨#[x.cps.getD i 0]⟩) W (fun i v h ⟨c, u, hc, hv⟩ => by
      simp only [VRel]
      have : x.cps.getD i 0 = c := by rw [Array.getD_eq_getD_getElem?, hc]; rfl
      rw [this]; exact ⟨u, hv⟩) (fun i h st => let ⟨o, e, c, d⟩ := st; ⟨o, _, e, c, d⟩) h1 h2 h3) ⟨Nat.zero_le _, ⟨_, Heap.get?_push_size _ rfl, rfl, rfl⟩⟩ q
  by_cases ha : x.cps.all (· < 128) = true
  · have e : strIterType x = "str_ascii_iterator" := by unfold strIterType; rw [if_pos ha]
    rw [e]
    exact go _ (Walks.strAscii hA _ x t) (by decide) (by decide) (by decide)
  · have e : strIterType x = "str_iterator" := by unfold strIterType; rw [if_neg ha]
    rw [e]
    exact go _ (Walks.strWide hA _ x t) (by decide) (by decide) (by decide)
noncomputable abbrev byteItem (b : Array UInt8) := fnItem b.size (fun i => .int (b.getD i 0).toNat)
theorem pi_bytes {b : Array UInt8} (hA : A.handled = none) (q : QI C (byteItem b) H) : PI C A target (.bytes b) QI H := fun v s rv R => by
  simp only [VRel] at rv; obtain ⟨t, rfl⟩ := rv
  refine KBw.pyIter_bytes ?_
  exact itPost_one (tk := s.toks) R (fun _ _ e => e) (Nat.le_refl _) (src_walks (T := "bytes_iterator") (f := fun i => .int (b.getD i 0).toNat) (KBw.walks hA _ b t) (fun i v h ⟨c, u, hc, hv⟩ => by
      simp only [VRel]
      have : b.getD i 0 = c := by rw [Array.getD_eq_getD_getElem?, hc]; rfl
      rw [this]; exact ⟨u, hv⟩) (fun i h st => let ⟨o, e, c, d⟩ := st; ⟨o, _, e, c, d⟩) (by decide) (by decide) (by decide)) ⟨Nat.zero_le _, ⟨_, Heap.get?_push_size _ rfl, rfl, rfl⟩⟩ q

-- reversed(list)
noncomputable def revItem (l : Addr) (n : Nat) : Nat → AH → Option V → Prop := fun i H r => ∃ vs, (l, AO.list vs) ∈ H ∧ vs.length = n ∧ r = vs.reverse[i]?
theorem src_rev {I l : Addr} {n : Nat} (hA : A.handled = none) (hne : l ≠ I) :
    Src C A target (.ref I) [I] [I] (fun i h => i ≤ n ∧ h.IsRevIter I l ((n : Int) - 1 - (i : Int))) (revItem l n) where
  sub := fun b h => h
  nofz := fun i h ⟨_, o, e, c, _⟩ b hb o' e' => by
    rw [List.mem_singleton.mp hb, e] at e'; cases e'; exact notFrozen_cls c (by decide) (by decide)
  live := fun i h ⟨_, o, e, _⟩ b hb => ⟨o, by rw [List.mem_singleton.mp hb]; exact e⟩
  frame := fun i h h' ⟨hi, x⟩ _ k => ⟨hi, x.at fun o e => k I (.head _) o e⟩
  self := fun i s ⟨_, h⟩ => wpAny_pyIter_revIter h ⟨rfl, rfl⟩
  item := fun i H s x ⟨hi, hit⟩ R hf ⟨vs, hm, hlen, hx⟩ => by
    obtain ⟨items, pl, rv⟩ := R.objs _ hm
    have hl := rv.length
    have hlt : i < n := by
      have := (List.getElem?_eq_some_iff.mp hx.symm).1; simpa [hlen] using this
    have hx' := hx.symm
    rw [List.getElem?_reverse (by omega)] at hx'
    obtain ⟨v, hv, rx⟩ := rv.get hx'
    have e : (n : Int) - 1 - (i : Int) = ((n - 1 - i : Nat) : Int) := by omega
    rw [e] at hit
    refine wpAny_pyNext_rev_item hit (PlainList.isList pl) (by rw [hlen] at hv; simpa using hv) fun h' hit' hs' => ⟨v, rfl, ?_⟩
    obtain ⟨o, ho, hc, hd⟩ := id hit'
    refine letGo_skip ho hc hd (by decide) ⟨h', s.toks, rfl, ?_, ⟨hlt, ?_⟩, fun b o n e => hs'.extBut b o (fun q => n (by simp [q])) e⟩
    · exact rx.fz fun a o e f => hs'.extBut a o (fun q => by
        obtain ⟨o', e', c, _⟩ := hit
        rw [q, e'] at e; cases e
        exact notFrozen_cls c (by decide) (by decide) f) e
    · have e2 : ((n - 1 - i : Nat) : Int) - 1 = (n : Int) - 1 - ((i + 1 : Nat) : Int) := by omega
      rw [e2] at hit'; exact hit'
  done := fun i H s ⟨hi, hit⟩ R hf ⟨vs, hm, hlen, hx⟩ => by
    have hge := List.getElem?_eq_none_iff.mp hx.symm
    rw [List.length_reverse, hlen] at hge
    have : (n : Int) - 1 - (i : Int) = -1 := by omega
    rw [this] at hit
    exact wpAny_pyNext_rev_end hA hit fun h' hs' => ⟨rfl, h', s.toks, rfl, fun b o n e => hs' b o (fun q => n (by simp [q])) e⟩
theorem ci_reversed {l : Addr} {vs : List V} (hA : A.handled = none) (hl : (l, AO.list vs) ∈ H) (q : QI C (revItem l vs.length) H) : CI C A target (.ty "reversed") [.ref l] QI H := ci_call ty_nr ty_eq fun avs s ra R => by
  obtain ⟨v, rfl, r1⟩ := rel1 ra
  simp only [VRel] at r1; subst r1
  obtain ⟨items, pl, rvs⟩ := R.objs _ hl
  have hlen := rvs.length
  have hlt : l < s.heap.objs.size := by obtain ⟨n, e⟩ := pl; exact Heap.lt_size e
  simp only [Array.length_toList] at hlen
  refine call_reversed_list (PlainList.isList pl) ?_
  have hr : (s.heap.push (revObj l ((items.size : Int) - 1))).IsRevIter s.heap.objs.size l ((items.size : Int) - 1) := ⟨_, Heap.get?_push_size _ rfl, rfl, rfl⟩
  refine wpAny_pyIter_revIter hr ?_
  have hr' : (s.heap.push (revObj l ((items.size : Int) - 1))).IsRevIter s.heap.objs.size l ((vs.length : Int) - 1 - ((0 : Nat) : Int)) := by
    have e0 : ((vs.length : Int) - 1 - ((0 : Nat) : Int)) = (items.size : Int) - 1 := by omega
    rw [e0]; exact hr
  exact itPost_one (tk := s.toks) R (fun _ _ e => e) (Nat.le_refl _) (src_rev (n := vs.length) hA (Nat.ne_of_lt hlt)) ⟨Nat.zero_le _, hr'⟩ q

-- enumerate
noncomputable def enumItem (Item : Nat → AH → Option V → Prop) : Nat → AH → Option V → Prop := fun i H r => ∃ x, Item i H x ∧ r = x.map fun v => .tup [.int i, v]
theorem new_tuple {X : List Addr} {h h' : Heap} {T : Addr} {vs : Array Value} {us : List V} (hX : ∀ a ∈ X, ∃ o, h.get? a = some o) (hT : h.objs.size ≤ T) (e : h'.get? T = some { cls := .type "tuple", data := .seq vs }) (r : VsRel X h' us vs.toList) : VRel X h' (.tup us) (.ref T) := by
  simp only [VRel]
  exact ⟨T, vs, rfl, fun q => let ⟨o, e⟩ := hX _ q; absurd (Heap.lt_size e) (Nat.not_lt.mpr hT), ⟨_, e, rfl, 0, rfl⟩, r⟩
theorem src_enum_list {e it l : Addr} {elts : List Expr} {k : Nat} (hA : A.handled = none) (hne : e ≠ it) (hel : l ≠ e) (hil : l ≠ it) :
    Src C A (.Tuple elts k tpos) (.ref e) [e, it] [e, it] (fun i h => (∃ old, IsEnum h e it i old) ∧ h.IsListIter it l i) (enumItem (listItem l)) where
  sub := fun b h => h
  nofz := fun i h ⟨⟨old, he⟩, o, ei, c, _⟩ b hb o' e' => by
    rcases List.mem_cons.mp hb with rfl | hb
    · rw [he] at e'; cases e'; simp [Frozen]
    · rw [List.mem_singleton.mp hb, ei] at e'; cases e'; exact notFrozen_cls c (by decide) (by decide)
  live := fun i h ⟨⟨old, he⟩, o, ei, c, _⟩ b hb => by
    rcases List.mem_cons.mp hb with rfl | hb
    · exact ⟨_, he⟩
    · rw [List.mem_singleton.mp hb]; exact ⟨_, ei⟩
  frame := fun i h h' ⟨⟨old, he⟩, x⟩ _ kk => ⟨⟨old, kk e (by simp) _ he⟩, x.at fun o e => kk it (by simp) o e⟩
  self := fun i s ⟨⟨old, he⟩, _⟩ => wpAny_pyIter_enum he ⟨rfl, rfl⟩
  item := fun i H s x ⟨⟨old, he⟩, hit⟩ R hf ⟨x', ⟨vs, hm, hx'⟩, hx⟩ => by
    obtain ⟨items, pl, rv⟩ := R.objs _ hm
    obtain ⟨v, rfl, rfl⟩ := Option.map_eq_some_iff.mp hx.symm
    obtain ⟨w, hw, rw⟩ := rv.get hx'.symm
    refine wpAny_pyNext_enum_item he hit (PlainList.isList pl) (by simpa using hw) hne fun h' hout hit' hT hsz kk => ⟨_, rfl, ?_⟩
    refine wpAny_letOwnedTupleGo_enum hout fun h'' he'' hs'' => ⟨h'', s.toks + 1, rfl, ?_, ⟨⟨_, by simpa using he''⟩, hit'.at fun o e1 => (hs''.2 it (Ne.symm hne)).trans e1⟩, fun b o n e1 => (hs''.2 b (fun q => n (by simp [q]))).trans (kk b o (fun q => n (by simp [q])) (fun q => n (by simp [q])) e1)⟩
    have hee : e < s.heap.objs.size := Heap.lt_size he
    have hf' : Fz C.X s.heap h'' := fun a o e1 f => by
      have h1 : a ≠ e := fun q => by rw [q, he] at e1; cases e1; simp [Frozen] at f
      have h2 : a ≠ it := fun q => by
        obtain ⟨o', e', c, _⟩ := hit
        rw [q, e'] at e1; cases e1
        exact notFrozen_cls c (by decide) (by decide) f
      exact (hs''.2 a h1).trans (kk a o h1 h2 e1)
    refine new_tuple (vs := #[.int i s.toks, w]) (fun a ha => (R.xl a ha).2) (Nat.le_refl _) ((hs''.2 _ (Nat.ne_of_gt hee)).trans hT) (.cons ⟨_, rfl⟩ (.cons (rw.fz hf') .nil))
  done := fun i H s ⟨⟨old, he⟩, hit⟩ R hf ⟨x', ⟨vs, hm, hx'⟩, hx⟩ => by
    obtain ⟨items, pl, rv⟩ := R.objs _ hm
    have hz := rv.length
    have hn : x' = none := by cases x' with | none => rfl | some _ => cases hx
    subst hn
    have hlen := List.getElem?_eq_none_iff.mp hx'.symm
    exact wpAny_pyNext_enum_end hA he hit (PlainList.isList pl) (by rw [Array.getElem?_eq_none_iff, ← Array.length_toList, hz]; exact hlen) fun h' hs' => ⟨rfl, h', s.toks, rfl, fun b o n e => hs' b o (fun q => n (by simp [q])) e⟩
theorem itPost_two {s : Shared} {J : Nat → Heap → Prop} {Item : Nat → AH → Option V → Prop} {h' : Heap} {tk : Tok} (R : Rel C H s) (k₀ : ∀ b o, s.heap.get? b = some o → h'.get? b = some o)
    (S : Src C A target (.ref (s.heap.objs.size + 1)) [s.heap.objs.size + 1, s.heap.objs.size] [s.heap.objs.size + 1, s.heap.objs.size] J Item) (hJ : J 0 h') (q : QI C Item H) :
    ItPost C A target QI H s (.ref (s.heap.objs.size + 1)) { s with heap := h', toks := tk } := by
  refine ⟨[], _, _, J, Item, H, q, S, hJ, fun b hb => ?_, fun b hb => ?_, fun b hb => (nomatch hb), R.ext k₀, kept_of_ext k₀⟩
  · have hz : s.heap.objs.size ≤ b := by rcases List.mem_cons.mp hb with rfl | hb; omega; rw [List.mem_singleton.mp hb]; exact Nat.le_refl _
    exact fun h => absurd (R.lt h) (Nat.not_lt.mpr hz)
  · have hz : s.heap.objs.size ≤ b := by rcases List.mem_cons.mp hb with rfl | hb; omega; rw [List.mem_singleton.mp hb]; exact Nat.le_refl _
    exact ⟨R.baseNew hz, .inr (Heap.get?_none_of_le hz)⟩
theorem ci_enum_list {l : Addr} {vs : List V} {elts : List Expr} {k : Nat} (hA : A.handled = none) (hl : (l, AO.list vs) ∈ H) (q : QI C (enumItem (listItem l)) H) : CI C A (.Tuple elts k tpos) (.ty "enumerate") [.ref l] QI H := ci_call ty_nr ty_eq fun avs s ra R => by
  obtain ⟨v, rfl, r1⟩ := rel1 ra
  simp only [VRel] at r1; subst r1
  obtain ⟨items, pl, rvs⟩ := R.objs _ hl
  have hlt : l < s.heap.objs.size := by obtain ⟨n, e⟩ := pl; exact Heap.lt_size e
  refine call_enumerate_list (PlainList.isList pl) fun h' he hit hsz ext => wpAny_pyIter_enum he ?_
  exact itPost_two (tk := s.toks) R ext (src_enum_list hA (add_ne _ 1 (by decide)) (ne_add 1 hlt) (ne_add' hlt)) ⟨⟨_, he⟩, hit⟩ q
theorem src_enum_str {e it : Addr} {x : Str} {t : Tok} {T : String} {elts : List Expr} {k : Nat} (hA : A.handled = none) (hne : e ≠ it)
    (D : Draws C.prog C.w A.in1 it [it] x.cps.size (fun i v => ∃ c u, x.cps[i]? = some c ∧ v = .str ⟨#[c]⟩ u) (fun i h => h.IsStrIter it T x t i)) (h1 : T ≠ "tuple") (h2 : T ≠ "code") :
    Src C A (.Tuple elts k tpos) (.ref e) [e, it] [e, it] (fun i h => i ≤ x.length ∧ (∃ old, IsEnum h e it i old) ∧ h.IsStrIter it T x t i) (enumItem (signItem x)) where
  sub := fun b h => h
  nofz := fun i h ⟨_, ⟨old, he⟩, o, ei, c, _⟩ b hb o' e' => by
    rcases List.mem_cons.mp hb with rfl | hb
    · rw [he] at e'; cases e'; simp [Frozen]
    · rw [List.mem_singleton.mp hb, ei] at e'; cases e'; exact notFrozen_cls c h1 h2
  live := fun i h ⟨_, ⟨old, he⟩, o, ei, c, _⟩ b hb => by
    rcases List.mem_cons.mp hb with rfl | hb
    · exact ⟨_, he⟩
    · rw [List.mem_singleton.mp hb]; exact ⟨_, ei⟩
  frame := fun i h h' ⟨hi, ⟨old, he⟩, x⟩ _ kk => ⟨hi, ⟨old, kk e (by simp) _ he⟩, let ⟨o, ho, r⟩ := x; ⟨o, kk it (by simp) o ho, r⟩⟩
  self := fun i s ⟨_, ⟨old, he⟩, _⟩ => wpAny_pyIter_enum he ⟨rfl, rfl⟩
  item := fun i H s y ⟨hi, ⟨old, he⟩, hit⟩ R hf ⟨x', hx', hx⟩ => by
    obtain ⟨v, rfl, rfl⟩ := Option.map_eq_some_iff.mp hx.symm
    have hlt : i < x.length := Nat.lt_of_not_le fun q => by rw [signItem, fnItem, if_neg (by omega)] at hx'; cases hx'
    rw [signItem, fnItem, if_pos hlt] at hx'; cases hx'
    refine wpAny_pyNext_enum_itemD D he hit hlt hne (by simpa using hne) fun w h' tk hP hout hit' hT hsz kk => ⟨_, rfl, ?_⟩
    refine wpAny_letOwnedTupleGo_enum hout fun h'' he'' hs'' => ⟨h'', tk + 1, rfl, ?_, ⟨hlt, ⟨_, by simpa using he''⟩, let ⟨o, ho, r⟩ := hit'; ⟨o, (hs''.2 it (Ne.symm hne)).trans ho, r⟩⟩, fun b o n e1 => (hs''.2 b (fun q => n (by simp [q]))).trans (kk b o (fun q => n (by simp [q])) (fun q => n (by simp [q])) e1)⟩
    have hee : e < s.heap.objs.size := Heap.lt_size he
    obtain ⟨c, u, hc, rfl⟩ := hP
    have hcd : x.cps.getD i 0 = c := by rw [Array.getD_eq_getD_getElem?, hc]; rfl
    refine new_tuple (vs := #[.int i tk, .str ⟨#[c]⟩ u]) (fun a ha => (R.xl a ha).2) (Nat.le_refl _) ((hs''.2 _ (Nat.ne_of_gt hee)).trans hT) (.cons ⟨_, rfl⟩ (.cons (by rw [hcd]; exact ⟨u, rfl⟩) .nil))
  done := fun i H s ⟨hi, ⟨old, he⟩, hit⟩ R hf ⟨x', hx', hx⟩ => by
    have hn : x' = none := by cases x' with | none => rfl | some _ => cases hx
    subst hn
    have hge : ¬ i < x.length := fun q => by rw [signItem, fnItem, if_pos q] at hx'; cases hx'
    obtain rfl : i = x.length := by omega
    exact wpAny_pyNext_enum_endD D he hit fun h' hs' => ⟨rfl, h', s.toks, rfl, fun b o n e => hs' b o (fun q => n (by simp [q])) e⟩
theorem ci_enum_str {x : Str} {elts : List Expr} {k : Nat} (hA : A.handled = none) (q : QI C (enumItem (signItem x)) H) : CI C A (.Tuple elts k tpos) (.ty "enumerate") [.str x] QI H := ci_call ty_nr ty_eq fun avs s ra R => by
  obtain ⟨v, rfl, r1⟩ := rel1 ra
  simp only [VRel] at r1; obtain ⟨t, rfl⟩ := r1
  refine call_enumerate_str fun h' he hit hsz ext => wpAny_pyIter_enum he ?_
  by_cases ha : x.cps.all (· < 128) = true
  · have e : strIterType x = "str_ascii_iterator" := by unfold strIterType; rw [if_pos ha]
    rw [e] at hit
    exact itPost_two (tk := s.toks) R ext (src_enum_str (T := "str_ascii_iterator") hA (add_ne _ 1 (by decide)) (Draws.strAscii (A := A.in1) hA _ x t) (by decide) (by decide)) ⟨Nat.zero_le _, ⟨_, he⟩, hit⟩ q
  · have e : strIterType x = "str_iterator" := by unfold strIterType; rw [if_neg ha]
    rw [e] at hit
    exact itPost_two (tk := s.toks) R ext (src_enum_str (T := "str_iterator") hA (add_ne _ 1 (by decide)) (Draws.strWide (A := A.in1) hA _ x t) (by decide) (by decide)) ⟨Nat.zero_le _, ⟨_, he⟩, hit⟩ q

-- zip
noncomputable def zipItem (l1 l2 : Addr) : Nat → AH → Option V → Prop := fun i H r => ∃ xs ys, (l1, AO.list xs) ∈ H ∧ (l2, AO.list ys) ∈ H ∧ ((∃ x y, xs[i]? = some x ∧ ys[i]? = some y ∧ r = some (.tup [x, y])) ∨ ((xs[i]? = none ∨ ys[i]? = none) ∧ r = none))
theorem src_zip {z TI TO i1 i2 l1 l2 : Addr} {elts : List Expr} {k : Nat} (hA : A.handled = none) (D : ZipApart z TI TO i1 i2 l1 l2) (hTO : TO ∈ C.X) :
    Src C A (.Tuple elts k tpos) (.ref z) [z, TI, TO, i1, i2] [z, TO, i1, i2] (fun i h => IsZip h z TI TO .none ∧ IsPair h TI (.ref i1) (.ref i2) ∧ (∃ a b, IsPair h TO a b) ∧ h.IsListIter i1 l1 i ∧ h.IsListIter i2 l2 i) (zipItem l1 l2) where
  sub := fun b h => by simp at h ⊢; rcases h with h | h | h | h <;> simp [h]
  nofz := fun i h ⟨hz, hTI, ⟨a, b', hT⟩, ⟨o1, e1, c1, _⟩, ⟨o2, e2, c2, _⟩⟩ b hb o' e' => by
    simp at hb
    rcases hb with rfl | rfl | rfl | rfl
    · rw [hz] at e'; cases e'; simp [Frozen]
    · rw [hT] at e'; cases e'; simp [Frozen, hTO]
    · rw [e1] at e'; cases e'; exact notFrozen_cls c1 (by decide) (by decide)
    · rw [e2] at e'; cases e'; exact notFrozen_cls c2 (by decide) (by decide)
  live := fun i h ⟨hz, hTI, ⟨a, b', hT⟩, ⟨o1, e1, c1, _⟩, ⟨o2, e2, c2, _⟩⟩ b hb => by
    simp at hb
    rcases hb with rfl | rfl | rfl | rfl | rfl
    · exact ⟨_, hz⟩
    · exact ⟨_, hTI⟩
    · exact ⟨_, hT⟩
    · exact ⟨_, e1⟩
    · exact ⟨_, e2⟩
  frame := fun i h h' ⟨hz, hTI, ⟨a, b', hT⟩, h1, h2⟩ _ kk => ⟨kk z (by simp) _ hz, kk TI (by simp) _ hTI, ⟨a, b', kk TO (by simp) _ hT⟩, h1.at fun o e => kk i1 (by simp) o e, h2.at fun o e => kk i2 (by simp) o e⟩
  self := fun i s ⟨hz, _⟩ => wpAny_pyIter_zip hz ⟨rfl, rfl⟩
  item := fun i H s x ⟨hz, hTI, ⟨a, b', hT⟩, h1, h2⟩ R hf ⟨xs, ys, m1, m2, hx⟩ => by
    obtain ⟨its1, p1, rv1⟩ := R.objs _ m1
    obtain ⟨its2, p2, rv2⟩ := R.objs _ m2
    rcases hx with ⟨u, v, hu, hv, hx⟩ | ⟨_, hx⟩
    · cases hx
      obtain ⟨w1, hw1, rw1⟩ := rv1.get hu
      obtain ⟨w2, hw2, rw2⟩ := rv2.get hv
      refine wpAny_pyNext_zip_item D hz hTI hT h1 h2 (PlainList.isList p1) (PlainList.isList p2) (by simpa using hw1) (by simpa using hw2) fun h' a1 a2 a3 a4 a5 a6 a7 => ⟨_, rfl, ?_⟩
      refine wpAny_letOwnedTupleGo_zip a1 fun h'' hz'' hs'' => ⟨h'', s.toks, rfl, ?_, ⟨hz'', ?_, ⟨w1, w2, (hs''.2 _ D.TOz).trans a2⟩, a3.at fun o e1 => (hs''.2 _ D.i1z).trans e1, a4.at fun o e1 => (hs''.2 _ D.i2z).trans e1⟩, fun b o n e1 => ?_⟩
      · have hzz : z < s.heap.objs.size := Heap.lt_size hz
        have hf' : Fz C.X s.heap h'' := fun a o e1 f => by
          have n1 : a ≠ z := fun q => by rw [q, hz] at e1; cases e1; simp [Frozen] at f
          have n2 : a ≠ TO := fun q => by rw [q, hT] at e1; cases e1; simp [Frozen, q, hTO] at f
          have n3 : a ≠ i1 := fun q => by
            obtain ⟨o', e', c, _⟩ := h1
            rw [q, e'] at e1; cases e1
            exact notFrozen_cls c (by decide) (by decide) f
          have n4 : a ≠ i2 := fun q => by
            obtain ⟨o', e', c, _⟩ := h2
            rw [q, e'] at e1; cases e1
            exact notFrozen_cls c (by decide) (by decide) f
          exact (hs''.2 a n1).trans (a7 a o n1 n2 n3 n4 e1)
        exact new_tuple (vs := #[w1, w2]) (fun a ha => (R.xl a ha).2) (Nat.le_refl _) ((hs''.2 _ (Nat.ne_of_gt hzz)).trans a5) (.cons (rw1.fz hf') (.cons (rw2.fz hf') .nil))
      · exact (hs''.2 _ D.TIz).trans (a7 _ _ D.TIz D.TITO D.TIi1 D.TIi2 hTI)
      · simp at n
        exact (hs''.2 b n.1).trans (a7 b o n.1 n.2.1 n.2.2.1 n.2.2.2 e1)
    · cases hx
  done := fun i H s ⟨hz, hTI, ⟨a, b', hT⟩, h1, h2⟩ R hf ⟨xs, ys, m1, m2, hx⟩ => by
    obtain ⟨its1, p1, rv1⟩ := R.objs _ m1
    obtain ⟨its2, p2, rv2⟩ := R.objs _ m2
    rcases hx with ⟨u, v, hu, hv, hx⟩ | ⟨hend, _⟩
    · cases hx
    · refine wpAny_pyNext_zip_end hA D hz hTI hT h1 h2 (PlainList.isList p1) (PlainList.isList p2) ?_ fun h' kk => ⟨rfl, h', s.toks, rfl, fun b o n e => by simp at n; exact kk b o n.1 n.2.1 n.2.2.1 n.2.2.2 e⟩
      have l1 := rv1.length
      have l2 := rv2.length
      simp only [Array.length_toList] at l1 l2
      rcases hend with h | h
      · exact .inl (by rw [Array.getElem?_eq_none_iff, l1]; exact List.getElem?_eq_none_iff.mp h)
      · exact .inr (by rw [Array.getElem?_eq_none_iff, l2]; exact List.getElem?_eq_none_iff.mp h)
theorem ci_zip {l1 l2 : Addr} {xs ys : List V} {elts : List Expr} {k : Nat} (hA : A.handled = none) (m1 : (l1, AO.list xs) ∈ H) (m2 : (l2, AO.list ys) ∈ H) (q : ∀ b, QI (C.hide [b]) (zipItem l1 l2) H) : CI C A (.Tuple elts k tpos) (.ty "zip") [.ref l1, .ref l2] QI H := ci_call ty_nr ty_eq fun avs s ra R => by
  obtain ⟨v, w, rfl, r1, r2⟩ := rel2 ra
  simp only [VRel] at r1 r2; subst r1 r2
  obtain ⟨its1, p1, rv1⟩ := R.objs _ m1
  obtain ⟨its2, p2, rv2⟩ := R.objs _ m2
  have z1 : l1 < s.heap.objs.size := by obtain ⟨n, e⟩ := p1; exact Heap.lt_size e
  have z2 : l2 < s.heap.objs.size := by obtain ⟨n, e⟩ := p2; exact Heap.lt_size e
  refine call_zip_2 (PlainList.isList p1) (PlainList.isList p2) fun h' hz hTI hTO h1 h2 hsz ext => wpAny_pyIter_zip hz ?_
  have D : ZipApart (s.heap.objs.size + 4) (s.heap.objs.size + 2) (s.heap.objs.size + 3) s.heap.objs.size (s.heap.objs.size + 1) l1 l2 := zipApart_new z1 z2
  refine ⟨[s.heap.objs.size + 3], _, _, _, _, H, q _, src_zip (C := C.hide [s.heap.objs.size + 3]) hA D (by simp [Cfg.hide]), ⟨hz, hTI, ⟨_, _, hTO⟩, h1, h2⟩, fun b hb => ?_, fun b hb => ?_, fun b hb => by simp at hb; simp [hb], R.hide (t := s.toks) ext (fun a ha => by rw [List.mem_singleton.mp ha]; exact ⟨by omega, _, hTO⟩), kept_of_ext (t := s.toks) ext⟩
  · have hz : s.heap.objs.size ≤ b := zip_new hb
    exact fun h => absurd (R.lt h) (Nat.not_lt.mpr hz)
  · have hz : s.heap.objs.size ≤ b := zip_newW hb
    exact ⟨R.baseNew hz, .inr (Heap.get?_none_of_le hz)⟩
-- a tuple's items
end
end
noncomputable section
noncomputable def putE (name : Str) (u : V) : List (Str × V) → List (Str × V)
  | [] => [(name, u)]
  | (k, x) :: r => if k == name then (k, u) :: r else (k, x) :: putE name u r

theorem isStr_eq {e : DictEntry} {k : Str} {t : Tok} (h : e.key = .str k t) (name : Str) : e.key.isStr name = (k == name) := by rw [h]; rfl
theorem EsRel.found {X : List Addr} {h : Heap} {name : Str} {u : V} : ∀ {es : List (Str × V)} {l : List DictEntry}, EsRel X h es l → es.lookup name = some u → ∃ v, getL name l = some (some v) ∧ VRel X h u v
  | [], _, _, e => by simp at e
  | (k, x) :: es, l, ⟨en, r, a, ⟨t, b⟩, c, d⟩, e => by
    subst a
    have hk := isStr_eq b name
    rw [List.lookup_cons] at e
    cases q : name == k with
    | true =>
      rw [q] at e; cases e
      refine ⟨en.val, ?_, c⟩
      have : (k == name) = true := by rw [beq_iff_eq] at q ⊢; exact q.symm
      simp [getL, List.find?_cons, hk, this]
    | false =>
      rw [q] at e
      obtain ⟨v, hv, rv⟩ := EsRel.found d e
      refine ⟨v, ?_, rv⟩
      have : (k == name) = false := by rw [beq_eq_false_iff_ne] at q ⊢; exact fun h => q h.symm
      unfold getL at hv ⊢
      rw [List.find?_cons, hk, this]
      have hr : en.refKey = false := by unfold DictEntry.refKey; rw [b]
      simp only [List.any_cons, hr, Bool.false_or]
      exact hv
theorem EsRel.missing {X : List Addr} {h : Heap} {name : Str} : ∀ {es : List (Str × V)} {l : List DictEntry}, EsRel X h es l → es.lookup name = none → getL name l = some none
  | [], _, r, e => by simp only [EsRel] at r; subst r; rfl
  | (k, x) :: es, l, ⟨en, r, a, ⟨t, b⟩, c, d⟩, e => by
    subst a
    have hk := isStr_eq b name
    rw [List.lookup_cons] at e
    cases q : name == k with
    | true => rw [q] at e; cases e
    | false =>
      rw [q] at e
      have hv := EsRel.missing d e
      have : (k == name) = false := by rw [beq_eq_false_iff_ne] at q ⊢; exact fun h => q h.symm
      unfold getL at hv ⊢
      rw [List.find?_cons, hk, this]
      have hr : en.refKey = false := by unfold DictEntry.refKey; rw [b]
      simp only [List.any_cons, hr, Bool.false_or]
      exact hv
theorem EsRel.put {X : List Addr} {h : Heap} {name : Str} {u : V} {v : Value} {hsh : Int} {t : Tok} (rv : VRel X h u v) : ∀ {es : List (Str × V)} {l : List DictEntry}, EsRel X h es l → EsRel X h (putE name u es) (putL name hsh (.str name t) v l)
  | [], _, r => by simp only [EsRel] at r; subst r; exact ⟨_, _, rfl, ⟨t, rfl⟩, rv, rfl⟩
  | (k, x) :: es, l, ⟨en, r, a, ⟨t', b⟩, c, d⟩ => by
    subst a
    have hk := isStr_eq b name
    unfold putE putL
    rw [hk]
    cases q : k == name with
    | true => exact ⟨_, _, rfl, ⟨t', b⟩, rv, d⟩
    | false => exact ⟨_, _, rfl, ⟨t', b⟩, c, EsRel.put rv d⟩
theorem EsRel.length {X : List Addr} {h : Heap} : ∀ {es : List (Str × V)} {l : List DictEntry}, EsRel X h es l → l.length = es.length
  | [], _, r => by simp only [EsRel] at r; subst r; rfl
  | (k, x) :: es, l, ⟨en, r, a, _, _, d⟩ => by subst a; simp [EsRel.length d]
theorem putE_length (name : Str) (u : V) : ∀ es, (putE name u es).length ≤ es.length + 1
  | [] => by simp [putE]
  | (k, x) :: es => by
    unfold putE
    split
    · simp
    · simpa using putE_length name u es

/-- what the class's record says -/
structure ClsOk (K : Frag) (Cl : Addr) : Prop where
  get : plainGet K Cl "" = true
  dict : hasDictIn K Cl = true
  set : findIn K (.ref Cl) "__setattr__" = some (some (.builtin "object.__setattr__"))
  over : plainOver K Cl = true
  makes : makesIn K Cl = true
  keep : keepIn K (.ref Cl) = true

section
variable {C C' : Cfg} {gl : List (Str × V)} {A : Around} {env : Env} {pos tpos : Pos} {target : Expr} {H H' : AH} {Q : V → AH → Prop} {QF : Fl → AH → Prop} {QB : Bool → AH → Prop} {QU : Unit → AH → Prop}
variable {x dx Cl : Addr} {es : List (Str × V)} {name : Str} {QM : V → List V → AH → Prop}

theorem handed_v {X : List Addr} {h : Heap} {u : V} {v : Value} (r : VRel X h u v) (hb : ∀ i, u = .bi i → handedIn (.builtin i) = true) : handedIn v = true := by
  cases u <;> simp only [VRel] at r
  case bi id => subst r; exact hb _ rfl
  case tup => obtain ⟨a, _, rfl, _⟩ := r; rfl
  all_goals first | (subst r; rfl) | (obtain ⟨t, rfl⟩ := r; rfl)

theorem inst_at {s : Shared} (R : Rel C H s) (hx : (x, AO.obj (instObj Cl dx)) ∈ H) (hd : (dx, AO.attrs es) ∈ H) : ∃ l n, InstAt s.heap x (instObj Cl dx) Cl (some (dictOf l n)) ∧ EsRel C.X s.heap es l ∧ s.heap.get? dx = some (dictOf l n) := by
  obtain ⟨h1, _⟩ := R.objs _ hx
  obtain ⟨l, n, h2, r⟩ := R.objs _ hd
  exact ⟨l, n, ⟨h1, rfl, rfl, h2⟩, r, h2⟩

theorem ga_own {v : V} {expr : Bool} {attr : Option Value} (G : C.Ok gl) (O : ClsOk C.K Cl) (hx : (x, AO.obj (instObj Cl dx)) ∈ H) (hd : (dx, AO.attrs es) ∈ H) (hl : es.lookup name = some v) (ha : findIn C.K (.ref Cl) name = some attr) (hn : noGet C.K attr = true)
    (hb : ∀ i, v = .bi i → handedIn (.builtin i) = true) (q : Q v H) : Op1 C A (VRel C.X) (fun o => getAttr o name expr) (.ref x) Q H := fun w s rw R => by
  simp only [VRel] at rw; subst rw
  obtain ⟨l, n, I, r, _⟩ := inst_at R hx hd
  obtain ⟨v', hv, rv⟩ := r.found hl
  have X := G.kin.keeps R.keep
  exact get_value X I (plainGet_of O.get).1 (findObj_own O.dict ha hn (by rw [lookIn_dict, hv])) (handed_v rv hb) (post_tk (s := s) R rv q)

theorem sa_own {v : V} (G : C.Ok gl) (O : ClsOk C.K Cl) (hx : (x, AO.obj (instObj Cl dx)) ∈ H) (hu : Mine.Upd dx (.attrs es) (.attrs (putE name v es)) H H') (ht : takerIn C.K Cl name = some none) (hz : es.length ≤ 900) (q : QU () H') :
    Op2 C A URel (fun o v => setAttr o name v) (.ref x) v QU H := fun w u s rw ru R => by
  simp only [VRel] at rw; subst rw
  obtain ⟨l, n, I, r, D⟩ := inst_at R hx hu.mem
  have X := G.kin.keeps R.keep
  have hlen := r.length
  have hsome : ∃ o, getL name l = some o := by
    cases e : es.lookup name with
    | none => exact ⟨_, r.missing e⟩
    | some u => obtain ⟨v, h, _⟩ := r.found e; exact ⟨_, h⟩
  refine set_plain X I O.set ?_
  refine osa_open (s := { s with toks := s.toks + 1 }) X I O.over ht fun b => ?_
  obtain ⟨cd, hc, hd'⟩ := any_some O.dict
  have hx' := I.at_
  have e1 := putName_dict name (PyData.keyHash C.w.params name) (.str name (s.toks + 1)) u l n
  have D' : (s.heap.update dx (Obj.putName name (PyData.keyHash C.w.params name) (.str name (s.toks + 1)) u)).get? dx = some (dictOf (putL name (PyData.keyHash C.w.params name) (.str name (s.toks + 1)) u l) (putN name l n)) := by
    rw [Heap.get?_update_self _ D (by rw [e1]; rfl), e1]
  have hs : Heap.SameBut dx s.heap (s.heap.update dx (Obj.putName name (PyData.keyHash C.w.params name) (.str name (s.toks + 1)) u)) := Heap.SameBut.update ..
  have hdk : dx ∈ keys H := List.mem_map_of_mem (f := Prod.fst) hu.mem
  have hf : Fz C.X s.heap (s.heap.update dx (Obj.putName name (PyData.keyHash C.w.params name) (.str name (s.toks + 1)) u)) := fun a o e f => hs.extBut a o (fun q => R.notin e f (q ▸ hdk)) e
  refine wpAny_bind (wpAny_pure (wpAny_bind (wpAny_bind (wpAny_loadPart hx' (wpAny_bind (Looks.here (s := { s with toks := s.toks + 1 }) (looks_clsIn X hc) ?_))))))
  rw [hd']
  refine wpAny_pure (a := some dx) (wpAny_bind (wpAny_pure (wpAny_bind ?_)))
  unfold nsSet
  refine wpAny_bind (wpAny_bind (wpAny_askSetting (wpAny_pure (wpAny_bind (wpAny_mkText (wpAny_bind (wpAny_loadPart D ?_)))))))
  have c : (!l.toArray.any (·.key.isStr name) && l.toArray.any (·.refKey)) = false := by
    obtain ⟨o, ho⟩ := hsome
    unfold getL at ho
    rw [← Array.any_toList, ← Array.any_toList]
    split at ho
    · rename_i en he
      rw [List.any_eq_true.mpr ⟨en, List.mem_of_find?_eq_some he, List.find?_some he⟩]; rfl
    · split at ho
      · cases ho
      · rename_i z; rw [Bool.not_eq_true] at z; rw [z, Bool.and_false]
  dsimp only
  rw [aRefKeyMayBeTheName_at, c]
  refine wpAny_updatePart D ?_
  have hlen2 : (putL name (PyData.keyHash C.w.params name) (.str name (s.toks + 1)) u l).length ≤ 1000 := by
    have h1 := (EsRel.put (hsh := PyData.keyHash C.w.params name) (t := s.toks + 1) (name := name) ru r).length
    have h2 := putE_length name v es
    lia
  refine wpAny_bind (wpAny_lookBehind D' (pastItsLine_dict (by rw [List.size_toArray, sizeLine_eq]; lia)) ?_)
  obtain ⟨R', k'⟩ := R.upd hu (h' := _) (t := s.toks + 2) (fun b o n e => hs.extBut b o n e) ⟨_, _, D', (EsRel.put ru r).fz hf⟩
  exact wpAny_pure ⟨(), H', q, trivial, R', k'⟩

theorem gm_inst {f : Addr} (G : C.Ok gl) (O : ClsOk C.K Cl) (hx : (x, AO.obj (instObj Cl dx)) ∈ H) (hd : (dx, AO.attrs es) ∈ H) (hl : es.lookup name = none) (hf : findIn C.K (.ref Cl) name = some (some (.ref f))) (hT : isFn C.K (.ref f) = true)
    (q : QM (.ref f) [.ref x] H) : WPM C A (.ref x) name QM H := fun pl w s rw R => by
  simp only [VRel] at rw; subst rw
  obtain ⟨l, n, I, r, _⟩ := inst_at R hx hd
  have X := G.kin.keeps R.keep
  refine method_fn X I (plainGet_of O.get).1 (plainGet_of O.get).2 hf (beq_iff_eq.mp hT) (by show (lookIn name (dictOf l n)).map _ = _; rw [lookIn_dict, r.missing hl]; rfl) ?_
  exact post_id (x := (V.ref f, [V.ref x])) R ⟨rfl, .cons rfl .nil⟩ q

theorem ga_bound {f : Addr} {expr : Bool} (G : C.Ok gl) (O : ClsOk C.K Cl) (hx : (x, AO.obj (instObj Cl dx)) ∈ H) (hd : (dx, AO.attrs es) ∈ H) (hl : es.lookup name = none) (hf : findIn C.K (.ref Cl) name = some (some (.ref f))) (hT : isFn C.K (.ref f) = true)
    (hgf : specialIn C.K (.ref f) "__get__" = some (some (.builtin "function.__get__"))) (ht : takesIn C.K (.ref f) = some false) (hc : copiedNames.contains name = false)
    (q : ∀ b, Q (.ref b) ((b, .obj (methodObj (.ref f) (.ref x))) :: H)) : Op1 C A (VRel C.X) (fun o => getAttr o name expr) (.ref x) Q H := fun w s rw R => by
  simp only [VRel] at rw; subst rw
  obtain ⟨l, n, I, r, _⟩ := inst_at R hx hd
  have X := G.kin.keeps R.keep
  refine get_bind X I (plainGet_of O.get).1 (findObj_fn O.dict hf hgf ht hc (by rw [lookIn_dict, r.missing hl])) (plainGet_of O.get).2
    (wpAny_call (fn_get (s := { s with toks := s.toks + 1 }) X (beq_iff_eq.mp hT) (handed_on rfl ?_)))
  have ext : ∀ b o, s.heap.get? b = some o → (s.heap.push (methodObj (.ref f) (.ref x))).get? b = some o := fun b o e => Heap.get?_push_of_some _ e
  exact ⟨_, _, q _, rfl, R.add (t := s.toks + 1) ext (Nat.le_refl _) ⟨Heap.get?_push_size _ rfl, notFrozen_cls rfl (by decide) (by decide)⟩, kept_add (t := s.toks + 1) ext (Nat.le_refl _)⟩

/-- an instance is made -/
theorem mk_inst {fI : Addr} {F : FnA} {D : Value → Prop} {ln : List Str} {args : List V} {vals : List (Option V)} {body : List Stmt} {n : Nat} (G : C.Ok gl) (O : ClsOk C.K Cl) (hCl : True) (hi : findIn C.K (.ref Cl) "__init__" = some (some (.ref fI))) (hT : typeIn C.K (.ref fI) = some (.type "function"))
    (hF : ∀ H s, Rel C H s → ∃ cd, D cd ∧ FnAt s.heap fI F cd) (hroom : Room A (n + 2)) (hb : F.body = .stmts body) (hbind : Binds F (ln.take (args.length + 1)))
    (hln : ∀ x ∈ ln, F.scope.names.lookup x = some .local) (nd : ln.Nodup) (hcell : ∀ x ∈ F.scope.names, x.2 ≠ .cell) (i : ∀ x, Init ln (.ref x :: args) (vals.set 0 (some (.ref x))))
    (h : ∀ x dx L cd A', Room A' n → D cd → WPS C A' (envF F L fI cd F.closure) body (fun fl H₁ => ∃ H₂, Sub H₂ H₁ ∧ fl.val = .none ∧ Q (.ref x) H₂)
      ((L, .ns ln (vals.set 0 (some (.ref x)))) :: (x, .obj (instObj Cl dx)) :: (dx, .attrs []) :: H))
    (hco : F.scope.isCoroutine = false := by rfl) (hgen : F.scope.isGenerator = false := by rfl) (hk : F.scope.kind = .function := by rfl) :
    WPC C A (.ref Cl) args Q H := fun fv avs s rf ra R => by
  simp only [VRel] at rf; subst rf
  have X := G.kin.keeps R.keep
  refine ⟨?_, ?_⟩
  · obtain ⟨k, _, hk'⟩ := looks_keep (M := model C.prog C.w) O.keep X
    exact ⟨k, fun Q' q => hk'.here q⟩
  · refine wpAny_call ?_
    obtain ⟨hh, g, d, t, os⟩ := s
    refine make_core (makes_of X O.makes) (looks_findIn X hi) (fun self => bind_fn X self hT) (.inl rfl) ?_
    have e1 : ∀ b o, hh.get? b = some o → (hh.push emptyDict).get? b = some o := fun b o e => Heap.get?_push_of_some _ e
    have e2 : ∀ b o, (hh.push emptyDict).get? b = some o → ((hh.push emptyDict).push (instObj Cl hh.objs.size)).get? b = some o := fun b o e => Heap.get?_push_of_some _ e
    have R₁ := R.add (t := t) (a := hh.objs.size) (x := .attrs []) e1 (Nat.le_refl _) ⟨[], 0, Heap.get?_push_size _ rfl, rfl⟩
    have R₂ := R₁.add (h' := (hh.push emptyDict).push (instObj Cl hh.objs.size)) (t := t) (a := hh.objs.size + 1) (x := .obj (instObj Cl hh.objs.size)) e2 (by show (hh.push emptyDict).objs.size ≤ _; rw [Heap.size_push]; exact Nat.le_refl _)
      ⟨by have := Heap.get?_push_size (hh.push emptyDict) (o := instObj Cl hh.objs.size) rfl; rw [Heap.size_push] at this; exact this, by simp [Frozen]⟩
    have k₁ : Kept H ⟨hh, g, d, t, os⟩ ((hh.objs.size, .attrs []) :: H) ⟨hh.push emptyDict, g, d, t, os⟩ := kept_add (t := t) e1 (Nat.le_refl _)
    have k₂ : Kept ((hh.objs.size, .attrs []) :: H) ⟨hh.push emptyDict, g, d, t, os⟩ ((hh.objs.size + 1, .obj (instObj Cl hh.objs.size)) :: (hh.objs.size, .attrs []) :: H) ⟨(hh.push emptyDict).push (instObj Cl hh.objs.size), g, d, t, os⟩ :=
      kept_add (s := ⟨hh.push emptyDict, g, d, t, os⟩) (t := t) e2 (by show (hh.push emptyDict).objs.size ≤ _; rw [Heap.size_push]; exact Nat.le_refl _)
    have hr' : Room (A.under (.builtin "type.__call__" ⟨.ref Cl :: avs, []⟩)) (n + 1) := by
      refine ⟨hroom.hd, ?_, ?_⟩
      · have := hroom.depth
        have e : (A.under (.builtin "type.__call__" ⟨.ref Cl :: avs, []⟩)).depth = A.depth + Code.weight (.builtin "type.__call__" ⟨.ref Cl :: avs, []⟩) := rfl
        have hw : Code.weight (.builtin "type.__call__" ⟨.ref Cl :: avs, []⟩) = 1 := by kernel_rfl
        lia
      · have := hroom.units
        have e : (A.under (.builtin "type.__call__" ⟨.ref Cl :: avs, []⟩)).units = A.units + Code.cUnits (.builtin "type.__call__" ⟨.ref Cl :: avs, []⟩) := rfl
        have hw : Code.cUnits (.builtin "type.__call__" ⟨.ref Cl :: avs, []⟩) = 1 := by kernel_rfl
        lia
    have key := code_fn (Q := fun v H₂ => v = .none ∧ Q (.ref (hh.objs.size + 1)) H₂) (H := (hh.objs.size + 1, .obj (instObj Cl hh.objs.size)) :: (hh.objs.size, .attrs []) :: H) (xs := .ref (hh.objs.size + 1) :: args) (vals := vals.set 0 (some (.ref (hh.objs.size + 1))))
      G (fun s' R' => hF _ s' R') hr' hb (by simpa using hbind) hln nd hcell (i _) (fun L cd hD => WP.mono (h (hh.objs.size + 1) hh.objs.size L cd _ (hr'.deeper _) hD) fun fl H₁ ⟨H₂, sb, e, q⟩ => ⟨H₂, sb, e, q⟩) hco hgen hk
      (.ref (hh.objs.size + 1) :: avs) _ (.cons rfl (ra.fz (fz_of_ext fun b o e => e2 b o (e1 b o e)))) R₂
    refine codeAny_mono key fun r s' hr => ?_
    cases r with
    | error e => exact hr.elim
    | ok f =>
      cases f with
      | ret v =>
        obtain ⟨u, H₂, ⟨rfl, q⟩, rv, R', k'⟩ := hr
        simp only [VRel] at rv; subst rv
        exact ⟨rfl, ⟨_, H₂, q, rfl, R', (k₁.trans k₂).trans k'⟩⟩
      | _ => exact hr.elim
end
end
noncomputable section
theorem fs_mro : mroOf (.type "function") = pure [.type "function", .type "object"] := by rw [mroOf_type]; kernel_rfl
theorem fs_slot : Slot "function" "__setattr__" "object.__setattr__" := .of (owner := "object") (n := "__setattr__") (by rw [typeLookup_type, builtinLookup_eq_fast]; kernel_rfl) (by decide +kernel) (by decide +kernel) (by decide +kernel)
    (by first | exact .inl (by decide +kernel) | exact .inr (by decide +kernel)) (by rw [isSubtype_type]; kernel_rfl)
theorem fs_pass (self : Value) : refuseLoop self "__setattr__" [.type "function", .type "object"] = pure () := by kernel_rfl
theorem fs_ga : Slot "function" "__getattribute__" "object.__getattribute__" := .of (owner := "object") (n := "__getattribute__") (by rw [typeLookup_type, builtinLookup_eq_fast]; kernel_rfl) (by decide +kernel) (by decide +kernel) (by decide +kernel)
    (by first | exact .inl (by decide +kernel) | exact .inr (by decide +kernel)) (by rw [isSubtype_type]; kernel_rfl)
theorem fs_noga : typeLookup (.type "function") "__getattr__" = pure none := by rw [typeLookup_type, builtinLookup_eq_fast]; kernel_rfl
theorem fs_has : typeHasDict (.type "function") = true := by decide +kernel
theorem fs_tells (f : Addr) : ownStreamTells (.ref f) (.type "function") = pure () := by kernel_rfl
theorem fs_made (f d : Addr) : dictMade (.type "function") f d = pure (some d) := by kernel_rfl

section
variable {C C' : Cfg} {gl : List (Str × V)} {A : Around} {env : Env} {pos tpos : Pos} {H H' : AH} {Q : V → AH → Prop} {QU : Unit → AH → Prop}
variable {f d : Addr} {Fn : FnA} {name : Str} {v : V} {QM : V → List V → AH → Prop}

theorem sa_fn (hname : typeLookup (.type "function") name = pure none) (hf : (f, AO.fn Fn) ∈ H) (q : ∀ d, ∃ H', Mine.Upd f (.fn Fn) (.fobj d) H H' ∧ QU () ((d, .attrs [(name, v)]) :: H')) :
    Op2 C A URel (fun o v => setAttr o name v) (.ref f) v QU H := fun w u s rw ru R => by
  simp only [VRel] at rw; subst rw
  obtain ⟨o, fd, ho, hc, hd, r1, r2, r3, r4, r5, r6, r7, r8, r9, r10, hdn, hsl⟩ := R.objs _ hf
  obtain ⟨oc, odi, oda, osl⟩ := o
  dsimp only at hc hd hdn hsl
  subst hc hd hdn hsl
  have hT : s.TypeIs (.ref f) "function" := ⟨_, ho, rfl⟩
  have hflt : f < s.heap.objs.size := Heap.lt_size ho
  refine wpAny_bind (wpAny_mkText (wpAny_bind (wpAny_callSpecial?_slot hT fs_slot (wpAny_call_entry fs_slot hT PySem.F.store_object.entry ?_ (PySem.F.store_object.args _ _ _)))))
  rw [osa_eq, refuse_eq]
  refine wpAny_bind (wpAny_bind (wpAny_typeOf hT (wpAny_bind (wpAny_of_eq fs_mro ?_))))
  rw [fs_pass]
  refine wpAny_pure (wpAny_bind (wpAny_typeOf hT (wpAny_bind (wpAny_of_eq hname (wpAny_bind (wpAny_pure ?_))))))
  show wpAny _ _ (Builtin.ObjectAttr.storeInOwnDict _ _ _ _ _ _) _ _ _
  unfold Builtin.ObjectAttr.storeInOwnDict
  rw [fs_tells]
  refine wpAny_bind (wpAny_pure ?_)
  rw [if_neg (show ¬ ((Value.type "function" == Value.type "module") = true) from by decide)]
  refine wpAny_bind ?_
  show wpAny _ _ (instanceDict f true) _ _ _
  unfold instanceDict
  refine wpAny_bind (wpAny_loadPart ho ?_)
  dsimp only
  rw [fs_has]
  simp only [Bool.not_true, Bool.or_self, Bool.false_eq_true, if_false]
  refine wpAny_bind (wpAny_alloc ?_)
  obtain ⟨H', hu, qq⟩ := q s.heap.objs.size
  generalize hdd : s.heap.objs.size = d at qq hu ⊢
  have hfd : f ≠ d := fun e => by rw [← hdd] at e; exact absurd hflt (by rw [e]; exact Nat.lt_irrefl _)
  -- a new dict
  have ext₁ : ∀ b o, s.heap.get? b = some o → (s.heap.push emptyDict).get? b = some o := fun b o e => Heap.get?_push_of_some _ e
  have R₁ : Rel C ((d, .attrs []) :: H) { s with heap := s.heap.push emptyDict, toks := s.toks + 1 } := R.add ext₁ (by rw [hdd]; exact Nat.le_refl _) ⟨[], 0, by rw [← hdd]; exact Heap.get?_push_size _ rfl, rfl⟩
  have k₁ : Kept H s ((d, .attrs []) :: H) { s with heap := s.heap.push emptyDict, toks := s.toks + 1 } := kept_add ext₁ (by rw [hdd]; exact Nat.le_refl _)
  -- it becomes the function's own
  have hof := ext₁ _ _ ho
  refine wpAny_bind (wpAny_update hof ?_)
  generalize hh2 : (s.heap.push emptyDict).update f (fun o => { cls := o.cls, dict := some d, data := o.data, slots := o.slots }) = h₂
  have g₂ : h₂.get? f = some { cls := .type "function", dict := some d, data := .func fd } := by rw [← hh2]; exact Heap.get?_update_self _ hof rfl
  have s₂ : Heap.SameBut f (s.heap.push emptyDict) h₂ := hh2 ▸ Heap.SameBut.update ..
  obtain ⟨R₂, k₂⟩ := R₁.upd (h' := h₂) (t := s.toks + 1) (.tail hu) (fun b o n e => s₂.extBut b o n e) (y := .fobj d) ⟨fd, g₂⟩
  rw [fs_made]
  refine wpAny_pure ?_
  show wpAny _ _ (Builtin.ObjectAttr.storeInDict d (.str name s.toks) name u) _ _ _
  have D : h₂.get? d = some (dictOf [] 0) := s₂.extBut _ _ (Ne.symm hfd) (by rw [← hdd]; exact Heap.get?_push_size _ rfl)
  have e1 := putName_dict name (PyData.keyHash C.w.params name) (.str name (s.toks + 1)) u [] 0
  have D' : (h₂.update d (Obj.putName name (PyData.keyHash C.w.params name) (.str name (s.toks + 1)) u)).get? d = some (dictOf (putL name (PyData.keyHash C.w.params name) (.str name (s.toks + 1)) u []) (putN name [] 0)) := by
    rw [Heap.get?_update_self _ D (by rw [e1]; rfl), e1]
  have s₃ : Heap.SameBut d h₂ (h₂.update d (Obj.putName name (PyData.keyHash C.w.params name) (.str name (s.toks + 1)) u)) := Heap.SameBut.update ..
  have hf₂ : Fz C.X s.heap h₂ := fun a o e f' => s₂.extBut a o (fun q => by rw [q] at e; simp only [] at ho; rw [ho] at e; cases e; simp [Frozen] at f') (ext₁ a o e)
  have hf₃ : Fz C.X h₂ (h₂.update d (Obj.putName name (PyData.keyHash C.w.params name) (.str name (s.toks + 1)) u)) := fun a o e f' => s₃.extBut a o (fun q => by rw [q, D] at e; cases e; simp [Frozen] at f') e
  refine wpAny_bind (wpAny_pure (wpAny_bind ?_))
  unfold nsSet
  refine wpAny_bind (wpAny_bind (wpAny_askSetting (wpAny_pure (wpAny_bind (wpAny_mkText (wpAny_bind (wpAny_loadPart D ?_)))))))
  dsimp only [dictOf]
  rw [aRefKeyMayBeTheName_at, show (!([] : List DictEntry).toArray.any (·.key.isStr name) && ([] : List DictEntry).toArray.any (·.refKey)) = false from by simp]
  refine wpAny_updatePart D ?_
  refine wpAny_bind (wpAny_lookBehind D' (pastItsLine_dict (by simp [putL, sizeLine_eq])) ?_)
  obtain ⟨R₃, k₃⟩ := R₂.upd (t := s.toks + 2) (y := .attrs [(name, v)]) (.head) (fun b o n e => s₃.extBut b o n e) ⟨_, _, D', EsRel.put (es := []) ((ru.fz hf₂).fz hf₃) rfl⟩
  exact wpAny_pure ⟨.none, rfl, wpAny_pure ⟨(), _, qq, trivial, R₃, (k₁.trans k₂).trans k₃⟩⟩

/-- a method's name at a function that holds it as its own attribute -/
theorem gm_fobj {es : List (Str × V)} {v : V} (hname : typeLookup (.type "function") name = pure none) (hf : (f, AO.fobj d) ∈ H) (hd : (d, AO.attrs es) ∈ H) (hl : es.lookup name = some v) (hb : ∀ i, v = .bi i → handedIn (.builtin i) = true)
    (q : QM v [] H) : WPM C A (.ref f) name QM H := fun pl w s rw R => by
  simp only [VRel] at rw; subst rw
  obtain ⟨fd, ho⟩ := R.objs _ hf
  obtain ⟨l, n, hdd, r⟩ := R.objs _ hd
  obtain ⟨u, hu, ru⟩ := r.found hl
  simp only [] at ho hdd
  have hT : s.TypeIs (.ref f) "function" := ⟨_, ho, rfl⟩
  have hcan := PySem.F.canon_object_ga
  unfold getMethod
  refine wpAny_bind (wpAny_specialOf hT fs_ga.lookup ?_)
  dsimp only
  rw [hcan, if_neg Bool.false_ne_true]
  refine wpAny_bind (wpAny_specialOf hT fs_noga ?_)
  simp only [Option.isSome_none, Bool.false_eq_true, if_false]
  refine wpAny_bind (wpAny_specialOf hT hname ?_)
  dsimp only
  refine wpAny_bind ?_
  unfold getAttr getAttrBy
  refine wpAny_bind (wpAny_mkText (wpAny_holding ?_))
  have hT' : Shared.TypeIs { s with toks := s.toks + 1 } (.ref f) "function" := hT
  refine wpAny_bind (wpAny_typeOf hT' (wpAny_bind (wpAny_of_eq fs_ga.lookup ?_)))
  dsimp only
  rw [if_neg (by decide)]
  unfold getAttrByItsOwn
  refine wpAny_bind (wpAny_of_eq (a := none) rfl ?_)
  refine wpAny_bind (wpAny_attempt (wpAny_holding ?_))
  show wpAny _ _ (boundAndCalled _ _ _) _ _ _
  unfold boundAndCalled
  rw [fs_ga.bind]
  refine wpAny_bind (wpAny_pure ?_)
  refine wpAny_call_entry fs_ga hT' PySem.F.entry_object_getattribute ?_ (PySem.F.args_object_getattribute_2 _ _)
  show wpAny _ _ (typeOf (.ref f) >>= fun tp => Builtin.ObjectAttr.find (.ref f) tp name >>= _) _ _ _
  refine wpAny_bind (wpAny_typeOf hT' (wpAny_bind ?_))
  unfold Builtin.ObjectAttr.find
  refine wpAny_bind (wpAny_of_eq hname (wpAny_bind (wpAny_pure (wpAny_bind (wpAny_pure ?_)))))
  show wpAny _ _ (Builtin.ObjectAttr.ownThenClass _ _ _ _) _ _ _
  unfold Builtin.ObjectAttr.ownThenClass
  refine wpAny_bind ?_
  show wpAny _ _ (Builtin.ObjectAttr.ownDict f >>= fun d => Builtin.ObjectAttr.inDict name d) _ _ _
  refine wpAny_bind (wpAny_bind (wpAny_loadPart ho ?_))
  show wpAny _ _ (instanceDict f false) _ _ _
  unfold instanceDict
  refine wpAny_bind (wpAny_loadPart ho (wpAny_pure ?_))
  show wpAny _ _ (nsGet d name) _ _ _
  unfold nsGet
  refine wpAny_bind (wpAny_loadPart hdd ?_)
  rw [nsLook_of (r := some u) (by rw [lookIn_dict]; exact hu)]
  refine wpAny_pure (wpAny_bind (wpAny_rule (wpAny_pure ?_)))
  refine wpAny_pure ⟨u, rfl, ?_⟩
  show wpAny _ _ (handedOut u) _ _ _
  rw [handedOut_of (handed_v ru hb)]
  exact wpAny_pure (wpAny_pure (post_tk (s := s) (x := (v, [])) R ⟨ru, .nil⟩ q))
end
end
noncomputable section
theorem ci_iter : Slot "callable_iterator" "__iter__" "callable_iterator.__iter__" := .of (owner := "callable_iterator") (n := "__iter__") (by rw [typeLookup_type, builtinLookup_eq_fast]; kernel_rfl) (by decide +kernel) (by decide +kernel) (by decide +kernel)
    (by first | exact .inl (by decide +kernel) | exact .inr (by decide +kernel)) (by rw [isSubtype_type]; kernel_rfl)
theorem ci_next : Slot "callable_iterator" "__next__" "callable_iterator.__next__" := .of (owner := "callable_iterator") (n := "__next__") (by rw [typeLookup_type, builtinLookup_eq_fast]; kernel_rfl) (by decide +kernel) (by decide +kernel) (by decide +kernel)
    (by first | exact .inl (by decide +kernel) | exact .inr (by decide +kernel)) (by rw [isSubtype_type]; kernel_rfl)
theorem ci_entry_iter : entryFor table "callable_iterator.__iter__" = some Builtin.«dict_keyiterator.__iter__» :=
  entryFor_alias (id' := "dict_keyiterator.__iter__") (by kernel_rfl) (by first | rfl | decide +kernel | (unfold String.splitOn; simp +decide [String.splitOnAux])) (by decide +kernel) (by kernel_rfl)
theorem ci_entry_next : entryFor table "callable_iterator.__next__" = some Builtin.«callable_iterator.__next__» := entryFor_of_tree (by kernel_rfl)
theorem ci_args_iter (a : Value) : argsOk "callable_iterator.__iter__" ⟨[a], []⟩ := by unfold argsOk; kernel_rfl
theorem ci_args_next (a : Value) : argsOk "callable_iterator.__next__" ⟨[a], []⟩ := by unfold argsOk; kernel_rfl
theorem it_kind : builtinKind "iter" = none := by decide +kernel
theorem it_plain : plainId "iter" = true := by decide +kernel
theorem it_entry : entryFor table "iter" = some Builtin.«iter» := entryFor_of_tree (by kernel_rfl)
theorem it_args (a b : Value) : argsOk "iter" ⟨[a, b], []⟩ := by unfold argsOk; kernel_rfl
theorem it_call : ∃ r, typeLookup (.type "method") "__call__" = pure (some r) := ⟨.builtin "method.__call__", by rw [typeLookup_type, builtinLookup_eq_fast]; kernel_rfl⟩

noncomputable abbrev ciObj (q : Addr) (t : Tok) : Obj := { cls := .type "callable_iterator", data := .fields #[.ref q, .str "" t, .bool false] }
noncomputable abbrev ciEnd : Obj := { cls := .type "callable_iterator", data := .fields #[.none, .none, .bool true] }

section
variable {C C' : Cfg} {gl : List (Str × V)} {A : Around} {env : Env} {pos tpos : Pos} {H H' : AH} {Q : V → AH → Prop} {QU : Unit → AH → Prop} {QF : Fl → AH → Prop}
variable {m x f I : Addr} {t : Tok} {QM : V → List V → AH → Prop}

theorem c_iter2 (hm : (m, AO.obj (methodObj (.ref f) (.ref x))) ∈ H) (q : ∀ a t, Q (.ref a) ((a, .obj (ciObj m t)) :: H)) : WPC C A (.bi "iter") [.ref m, .str ""] Q H := wpc_bi fun avs s ra R => by
  obtain ⟨v, w, rfl, r1, r2⟩ := rel2 ra
  simp only [VRel] at r1 r2; subst r1; obtain ⟨t, rfl⟩ := r2
  obtain ⟨ho, _⟩ := R.objs _ hm
  have hT : s.TypeIs (.ref m) "method" := ⟨_, ho, rfl⟩
  obtain ⟨r, hr⟩ := it_call
  refine Calls.call_function_entry it_kind it_plain it_entry (it_args _ _) ?_
  unfold Builtin.«iter»
  refine wpAny_bind (wpAny_of_eq (a := [.ref m, .str "" t]) (by first | rfl | kernel_rfl) ?_)
  dsimp only
  refine wpAny_bind (wpAny_specialOf hT hr ?_)
  simp only [Option.isNone_some, Bool.false_eq_true, if_false]
  refine wpAny_bind (wpAny_rule ?_)
  show wpAny _ _ (newFields _ _ >>= _) _ _ _
  refine wpAny_bind (wpAny_newObj_type ?_ (by size_fits))
  have ext : ∀ b o, s.heap.get? b = some o → (s.heap.push (ciObj m t)).get? b = some o := fun b o e => Heap.get?_push_of_some _ e
  exact wpAny_pure ⟨_, rfl, ⟨_, _, q _ t, rfl, R.add (t := s.toks) ext (Nat.le_refl _) ⟨Heap.get?_push_size _ rfl, notFrozen_cls rfl (by decide) (by decide)⟩, kept_add (t := s.toks) ext (Nat.le_refl _)⟩⟩

theorem wpAny_callBorrowed {M : Model} {A : Around} {E : Value → Shared → Prop} {s : Shared} {f : Value} {pos : List Value} {Q : Value → Shared → Prop}
    (hc : codeAny M A (.call f ⟨pos, []⟩) (fun r s' => match r with | .ok (.ret v) => Q v s' | .ok _ => False | .error e => E e s') s) : wpAny M A (callBorrowed f pos) Q E s := fun Γ p hΓ => by
  have h := wpAny_runValue (Q := Q) (E := E) hc Γ p hΓ
  rw [Sem.wp_runValue] at h
  have e : Sem.wp M Γ (callBorrowed f pos) (fun a _ s' => Q a s') (fun a _ s' => E a s') p s = wpCode M (Γ.enter (.call f ⟨pos, []⟩) none p) (fun r s' => match r with | .ok (.ret v) => Q v s' | .ok _ => False | .error e => E e s') p s := by
    unfold callBorrowed
    rw [Sem.wp]
    congr 1
    funext r s'
    cases r with
    | error e => rfl
    | ok f => cases f <;> rfl
  exact e ▸ h

/-- the next item of an iterator, by its own meaning -/
noncomputable def ORelV (X : List Addr) (h : Heap) (o : Option V) (w : Option Value) : Prop := match o with | some x => ∃ v, w = some v ∧ VRel X h x v | none => w = none
noncomputable def WPN (C : Cfg) (A : Around) (it : Value) (Q : Option V → AH → Prop) (H : AH) : Prop := WP C A (ORelV C.X) (pyNext it) Q H
variable {QN : Option V → AH → Prop}

theorem stop_tail {prog : Program} {w : World} {A : Around} {s : Shared} {Q : Option Value → Shared → Prop} {α : Type} {R : α → Shared → Prop} (hA : A.handled = none)
    (hQ : ∀ e h', (∀ b o, s.heap.get? b = some o → h'.get? b = some o) → (∃ o, h'.get? e = some o ∧ o.cls = .type "StopIteration") → Q none { s with heap := h' }) :
    wpAny (model prog w) A.in1 (Builtin.SmallTypes.stopIteration : Sem α) R (fun x s' => wpAny (model prog w) A (isInstance x (.type "StopIteration") >>= fun b => if b = true then pure none else throw x) Q NoE s') s := by
  unfold Builtin.SmallTypes.stopIteration
  refine wpAny_bind ?_
  simp only [newExc, newTuple]
  refine wpAny_bind (wpAny_newObj_type ?_ (by size_fits))
  refine wpAny_bind (m := firstArgMember _ _) (wpAny_of_eq (a := Value.none) (by first | rfl | (simp only [firstArgMember]; rfl)) ?_)
  refine wpAny_newObj_type ?_ (by size_fits)
  simp only [raiseNew]
  refine wpAny_bind (wpAny_handled ?_)
  rw [show A.in1.handled = none from hA]
  refine wpAny_bind (wpAny_pure (wpAny_throw ?_))
  refine wpAny_bind (wpAny_isInstance (T := "StopIteration") (b := true) ⟨_, Heap.get?_push_size _ rfl, rfl⟩ isSubtype_stop ?_)
  exact wpAny_pure (hQ _ _ (fun b o e => Heap.get?_push_of_some _ (Heap.get?_push_of_some _ e)) ⟨_, Heap.get?_push_size _ rfl, rfl⟩)

theorem nx_end (hA : A.handled = none) (hI : (I, AO.obj ciEnd) ∈ H) (q : QN none H) : WPN C A (.ref I) QN H := fun s R => by
  obtain ⟨ho, _⟩ := R.objs _ hI
  have hT : s.TypeIs (.ref I) "callable_iterator" := ⟨_, ho, rfl⟩
  unfold pyNext
  refine wpAny_bind (wpAny_attempt (wpAny_callSpecial?_slot (name := Str.ofString "__next__") hT ci_next (wpAny_call_entry ci_next hT ci_entry_next ?_ (ci_args_next _))))
  show wpAny _ _ (field (.ref I) 2 >>= _) _ _ _
  refine wpAny_bind (wpAny_field ho rfl (x := .bool true) rfl ?_)
  show wpAny _ _ (if (Value.bool true == Value.bool true) = true then _ else _) _ _ _
  rw [if_pos (by decide)]
  refine wpAny_bind (wpAny_rule ?_)
  refine wpAny_bind (stop_tail hA fun e h' ext _ => ?_)
  exact post_ext (s := s) (tk := s.toks) (x := (none : Option V)) R ext rfl q

/-- a call of a function object, as code -/
noncomputable def CodeC (C : Cfg) (A : Around) (f : Addr) (args : List V) (Q : V → AH → Prop) (H : AH) : Prop :=
  ∀ avs s, VsRel C.X s.heap args avs → Rel C H s → codeAny (model C.prog C.w) A (.call (.ref f) ⟨avs, []⟩) (fun r s' => match r with | .ok (.ret v) => Post C (VRel C.X) Q H s v s' | .ok _ => False | .error e => NoE e s') s
theorem WPC.of_code {args : List V} (hf : ∀ s, Rel C H s → ∃ o fd, s.heap.get? f = some o ∧ o.data = .func fd) (h : CodeC C A f args Q H) : WPC C A (.ref f) args Q H := fun fv avs s rf ra R => by
  simp only [VRel] at rf; subst rf
  obtain ⟨o, fd, ho, hd⟩ := hf s R
  refine ⟨⟨.frame, fun Q' q => ?_⟩, wpAny_call (h avs s ra R)⟩
  unfold keeperOf
  refine wpAny_bind (wpAny_load ho ?_)
  rw [hd]
  exact wpAny_pure q
theorem borrows {M : Model} {E : Value → Shared → Prop} {s : Shared} {o : Obj} {fd : FuncData} {P : Bool → Shared → Prop} {sf : Value} (hm : s.heap.get? m = some (methodObj (.ref f) sf)) (ho : s.heap.get? f = some o) (hd : o.data = .func fd) (h : P true s) :
    wpAny M A (borrowsExactly (.ref m)) P E s := by
  unfold borrowsExactly
  refine wpAny_bind (wpAny_load hm ?_)
  dsimp only
  rw [if_pos (by decide)]
  show wpAny _ _ (load f >>= _) _ _ _
  refine wpAny_bind (wpAny_load ho ?_)
  rw [hd]
  exact wpAny_pure h
theorem nx_call (hA : A.handled = none) (hI : (I, AO.obj (ciObj m t)) ∈ H) (hm : (m, AO.obj (methodObj (.ref f) (.ref x))) ∈ H) (hf : ∀ H s, Rel C H s → ∃ o fd, s.heap.get? f = some o ∧ o.data = .func fd)
    (h : CodeC C A.in1 f [.ref x] (fun v H₁ => ∃ c, v = .str c ∧ (I, AO.obj (ciObj m t)) ∈ H₁ ∧ (m, AO.obj (methodObj (.ref f) (.ref x))) ∈ H₁ ∧ (c ≠ "" → QN (some (.str c)) H₁) ∧
      (c = "" → ∃ H₂, Mine.Upd I (.obj (ciObj m t)) (.obj ciEnd) H₁ H₂ ∧ QN none H₂)) H) : WPN C A (.ref I) QN H := fun s R => by
  obtain ⟨ho, _⟩ := R.objs _ hI
  obtain ⟨hmo, _⟩ := R.objs _ hm
  obtain ⟨of, fd, hof, hfd⟩ := hf H s R
  simp only [] at ho hmo
  have hT : s.TypeIs (.ref I) "callable_iterator" := ⟨_, ho, rfl⟩
  unfold pyNext
  refine wpAny_bind (wpAny_attempt (wpAny_callSpecial?_slot (name := Str.ofString "__next__") hT ci_next (wpAny_call_entry ci_next hT ci_entry_next ?_ (ci_args_next _))))
  show wpAny _ _ (field (.ref I) 2 >>= _) _ _ _
  refine wpAny_bind (wpAny_field ho rfl (x := .bool false) rfl ?_)
  show wpAny _ _ (if (Value.bool false == Value.bool true) = true then _ else _) _ _ _
  rw [if_neg (by decide)]
  show wpAny _ _ (field (.ref I) 0 >>= _) _ _ _
  refine wpAny_bind (wpAny_field ho rfl (x := .ref m) rfl ?_)
  refine wpAny_bind (wpAny_attempt ?_)
  unfold callOutOfASlot
  refine wpAny_bind (borrows hmo hof hfd ?_)
  rw [if_pos rfl]
  refine wpAny_callBorrowed (ks_codeAny_call_bound hmo (codeAny_mono (h [.ref x] s (.cons rfl .nil) R) fun r s₁ hr => ?_))
  rcases r with e | (_ | _ | _ | v)
  · exact hr.elim
  · exact hr.elim
  · exact hr.elim
  · exact hr.elim
  obtain ⟨v', H₁, ⟨c, rfl, hI₁, hm₁, q1, q2⟩, rv, R₁, k₁⟩ := hr
  simp only [VRel] at rv
  obtain ⟨u, rfl⟩ := rv
  obtain ⟨ho₁, hfz⟩ := R₁.objs _ hI₁
  obtain ⟨hmo₁, _⟩ := R₁.objs _ hm₁
  obtain ⟨of₁, fd₁, hof₁, hfd₁⟩ := hf H₁ s₁ R₁
  simp only [] at ho₁ hmo₁
  dsimp only
  show wpAny _ _ (field (.ref I) 2 >>= _) _ _ _
  refine wpAny_bind (wpAny_field ho₁ rfl (x := .bool false) rfl ?_)
  show wpAny _ _ (if (Value.bool false == Value.bool true) = true then _ else _) _ _ _
  rw [if_neg (by decide)]
  show wpAny _ _ (field (.ref I) 1 >>= _) _ _ _
  refine wpAny_bind (wpAny_field ho₁ rfl (x := .str "" t) rfl ?_)
  refine wpAny_bind (wpAny_holding (eqBool_str ?_))
  by_cases hc : c = ""
  · subst hc
    rw [if_neg (by decide)]
    refine wpAny_bind (wpAny_rule ?_)
    obtain ⟨H₂, hu, q⟩ := q2 rfl
    refine wpAny_bind ?_
    show wpAny _ _ (field (.ref I) 0 >>= _) _ _ _
    refine wpAny_bind (wpAny_field ho₁ rfl (x := .ref m) rfl ?_)
    refine wpAny_bind ?_
    unfold slotLetsGo
    refine wpAny_bind (borrows hmo₁ hof₁ hfd₁ ?_)
    rw [if_pos rfl]
    refine wpAny_pure ?_
    refine wpAny_bind (wpAny_setField_rec ho₁ (by simp) fun h₁ e₁ s₁' => ?_)
    refine wpAny_bind (wpAny_setField_rec e₁ (by simp) fun h₂ e₂ s₂' => ?_)
    refine wpAny_setField_rec e₂ (by simp) fun h₃ e₃ s₃' => ?_
    have e₃' : h₃.get? I = some ciEnd := by simpa using e₃
    have sb := (s₁'.trans s₂').trans s₃'
    obtain ⟨R₂, k₂⟩ := R₁.upd (h' := h₃) (t := s₁.toks) hu (fun b o n e => sb.extBut b o n e) (y := .obj ciEnd) ⟨e₃', notFrozen_cls rfl (by decide) (by decide)⟩
    refine stop_tail (s := { s₁ with heap := h₃, toks := s₁.toks }) hA fun e h' ext _ => ?_
    exact ⟨none, H₂, q, rfl, R₂.ext (t := s₁.toks) ext, (k₁.trans k₂).trans (kept_of_ext (t := s₁.toks) ext)⟩
  · have hne : (("" : Str) == c) = false := beq_eq_false_iff_ne.mpr fun e => hc e.symm
    rw [hne]
    simp only [Bool.not_false, if_true]
    exact wpAny_pure ⟨_, rfl, wpAny_pure ⟨some (.str c), H₁, q1 hc, ⟨_, rfl, u, rfl⟩, R₁, k₁⟩⟩

/-- a for over an iterator that is an object of the heap's own -/
theorem wp1_ForE {iter : Expr} {y : Str} {py : Pos} {body orelse : List Stmt} (I : Addr) (J : Nat → AH → Prop) (N : Nat)
    (hself : ∀ i H₁ s, J i H₁ → Rel C H₁ s → wpAny (model C.prog C.w) A (pyIter (.ref I)) (fun v s' => v = .ref I ∧ s' = s) NoE s)
    (h0 : WP C A (VRel C.X) (eval iter env) (fun x H₁ => x = .ref I ∧ J 0 H₁) H)
    (h : ∀ i H₁, i ≤ N → J i H₁ → WPN C A (.ref I) (fun r H₂ => match r with
      | some x => i < N ∧ WPA C A env (.Name y py) x (fun _ H₃ => WPS C A env body (TurnEnd (J (i + 1)) QF) H₃) H₂
      | none => WPS C A env orelse QF H₂) H₁)
    (hs : ∀ x, foldedSetIterable iter env x = pure x := by intro _; rfl) : WP1 C A env (.For (.Name y py) iter body orelse pos) QF H := fun s R => by
  refine wpAny_For (hs := hs) (wpAny_mono (h0 s R) (fun v s₁ p138 => Post.el p138 fun x H₁ p139 rv R₁ k₁ => p139.elim fun hx hJ => ?_) fun _ _ e => e.elim)
  subst hx
  simp only [VRel] at rv
  subst rv
  refine wpAny_mono (hself 0 H₁ s₁ hJ R₁) (fun it s₂ ⟨e1, e2⟩ => ?_) fun _ _ e => e.elim
  subst e1 e2
  refine codeAny_mono (codeAny_forLoop_any (R := fun r s' => match r with
      | .ok f => Post C (FRel C.X) QF H s f s' | .error e => False) (fun n s' => ∃ i H₂, n = N + 1 - i ∧ i ≤ N ∧ J i H₂ ∧ Rel C H₂ s' ∧ Kept H s H₂ s') ?_ (N + 1)
    ⟨0, H₁, rfl, Nat.zero_le _, hJ, R₁, k₁⟩) fun r s' hr => ?_
  · rintro n s₁ ⟨i, H₂, rfl, hi, hI, R₂, k₂⟩
    refine wpAny_mono (h i H₂ hi hI s₁ R₂) (fun r s₃ p141 => Post.el p141 fun o H₃ q ro R₃ k₃ => ?_) fun _ _ e => e.elim
    cases o with
    | none =>
      cases ro
      exact wpAny_mono (q s₃ R₃) (fun f s₄ p => post_then k₂ (post_then k₃ p)) fun _ _ e => e.elim
    | some x =>
      obtain ⟨v, rfl, rv⟩ := ro
      obtain ⟨hlt, hw⟩ := q
      refine wpAny_of_eq (a := ()) rfl ?_
      refine wpAny_mono (hw v s₃ rv R₃) (fun _ s₄ p142 => Post.el p142 fun _ H₄ q₄ _ R₄ k₄ => ?_) fun _ _ e => e.elim
      refine wpAny_mono (q₄ s₄ R₄) (fun f s₅ p143 => Post.el p143 fun fl H₅ q₅ rf R₅ k₅ => ?_) fun _ _ e => e.elim
      have kk := ((k₂.trans k₃).trans k₄).trans k₅
      cases fl with
      | next => cases rf; exact ⟨N + 1 - (i + 1), by omega, i + 1, H₅, rfl, hlt, q₅, R₅, kk⟩
      | cont => cases rf; exact ⟨N + 1 - (i + 1), by omega, i + 1, H₅, rfl, hlt, q₅, R₅, kk⟩
      | brk => cases rf; exact ⟨.next, H₅, q₅, rfl, R₅, kk⟩
      | ret u => obtain ⟨w, rfl, rw⟩ := rf; exact ⟨.ret u, H₅, q₅, ⟨w, rfl, rw⟩, R₅, kk⟩
  · cases r with
    | error e => exact hr.elim
    | ok f => exact hr
theorem ci_self {o : Obj} (hc : o.cls = .type "callable_iterator") (hI : (I, AO.obj o) ∈ H) {s : Shared} (R : Rel C H s) : wpAny (model C.prog C.w) A (pyIter (.ref I)) (fun v s' => v = .ref I ∧ s' = s) NoE s := by
  obtain ⟨ho, _⟩ := R.objs _ hI
  have hT : s.TypeIs (.ref I) "callable_iterator" := ⟨_, ho, hc⟩
  refine wpAny_pyIter_slot hT ci_iter (wpAny_call_entry ci_iter hT ci_entry_iter ?_ (ci_args_iter _))
  show wpAny _ _ (ret (.ref I)) _ _ s
  exact wpAny_pure ⟨_, rfl, "callable_iterator", _, hT, ci_next.lookup, rfl, rfl⟩
end
end
noncomputable section
noncomputable def args0 (as : List Arg) : Arguments := ⟨[], as, none, [], [], none, []⟩
theorem zip_lookup_mem : ∀ {pn : List Str} {vs : List Value} {n : Str}, vs.length = pn.length → n ∈ pn → ((pn.zip vs).lookup n).isNone = false
  | [], _, _, _, h => nomatch h
  | p :: pn, [], _, e, _ => by simp at e
  | p :: pn, v :: vs, n, e, h => by
    rw [List.zip_cons_cons, List.lookup_cons]
    cases q : n == p with
    | true => rfl
    | false =>
      rcases List.mem_cons.mp h with rfl | h
      · simp at q
      · exact zip_lookup_mem (by simpa using e) h
theorem zip_filterMap : ∀ {pn : List Str} {vs : List Value}, pn.Nodup → vs.length = pn.length → (pn.filterMap fun n => ((pn.zip vs).lookup n).map (n, ·)) = pn.zip vs := by
  intro pn vs nd e
  have key : ∀ (l : List (Str × Value)), (l.map (·.1)).Nodup → ((l.map (·.1)).filterMap fun n => (l.lookup n).map (n, ·)) = l := by
    intro l hl
    have : ∀ (l' : List (Str × Value)), (∀ p ∈ l', l.lookup p.1 = some p.2) → ((l'.map (·.1)).filterMap fun n => (l.lookup n).map (n, ·)) = l' := by
      intro l'
      induction l' with
      | nil => intro _; rfl
      | cons p l' ih =>
        intro h
        rw [List.map_cons, List.filterMap_cons, h p (.head _)]
        simp only [Option.map_some]
        rw [ih fun q hq => h q (.tail _ hq)]
    exact this l fun p hp => lookup_of_mem hl hp
  have hm : (pn.zip vs).map (·.1) = pn := List.map_fst_zip (Nat.le_of_eq e.symm)
  have := key (pn.zip vs) (by rw [hm]; exact nd)
  rw [hm] at this; exact this
theorem binds_all {F : FnA} {as : List Arg} (h : F.params = args0 as) (nd : (as.map (·.arg)).Nodup) : Binds F (as.map (·.arg)) := by
  intro fd vs hp hd hk hl
  obtain ⟨⟩ := fd
  dsimp only at hp hd hk
  subst hp hd hk
  rw [h]
  have h1 : ¬ (as.map (·.arg)).length < vs.length := by omega
  have h2 : ((as.map (·.arg)).filter fun n => (((as.map (·.arg)).zip vs).lookup n).isNone) = [] := List.filter_eq_nil_iff.mpr fun n hn => by rw [zip_lookup_mem hl hn]; decide
  have h3 := zip_filterMap nd hl
  unfold bindArgs args0
  dsimp only
  rw [show seqItems? Value.none = pure none from rfl]
  simp only [List.map_nil, List.nil_append, List.append_nil, List.forIn_nil, pure_bind, Option.isNone_none, Bool.and_true, Option.getD_none, List.drop_nil, List.length_nil, Nat.sub_zero, List.take_length, List.drop_length, List.zip_nil_left, gt_iff_lt, h1, decide_false, Bool.false_eq_true, if_false, h2, List.isEmpty_nil, Bool.not_true, h3]


theorem binds_of {F : FnA} {as : List Arg} {pn : List Str} (h : F.params = args0 as) (e : as.map (·.arg) = pn) (nd : pn.Nodup) : Binds F pn := e ▸ binds_all h (e.symm ▸ nd)

noncomputable abbrev dbg (x : Str) : Prop := (x == ("__debug__" : Str)) = false ∧ (x == ("__classdict__" : Str)) = false
/-- what a function's record says -/
structure FnOk (F : FnA) (pn ln gn cn fn : List Str) : Prop where
  binds : Binds F pn
  hl : ∀ x ∈ ln, F.scope.names.lookup x = some .local ∧ dbg x
  hg : ∀ x ∈ gn, F.scope.names.lookup x = some .globalImplicit ∧ dbg x
  hc : ∀ x ∈ cn, F.scope.names.lookup x = some .cell ∧ dbg x
  hf : ∀ x ∈ fn, F.scope.names.lookup x = some .free ∧ dbg x
  nd : ln.Nodup
  ndp : pn.Nodup
  ndc : cn.Nodup
  ndf : fn.Nodup
  allc : ∀ x ∈ F.scope.names, x.2 = .cell → x.1 ∈ cn
  pk : ∀ x ∈ pn, x ∈ ln ∨ x ∈ cn
  cells : ∀ L, (cellsFrom (L + 1) F.scope.names []).map (·.1) = cn
  co : F.scope.isCoroutine = false
  gen : F.scope.isGenerator = false
  kind : F.scope.kind = .function

theorem FnOk.cellsLook {F : FnA} {pn ln gn cn fn : List Str} (O : FnOk F pn ln gn cn fn) (L : Addr) {p : Str × Addr} (h : p ∈ cellsFrom (L + 1) F.scope.names []) : p.1 ∈ cn ∧ (cellsFrom (L + 1) F.scope.names []).lookup p.1 = some p.2 :=
  ⟨O.cells L ▸ List.mem_map_of_mem (f := Prod.fst) h, lookup_of_mem (by rw [O.cells L]; exact O.ndc) h⟩

theorem FnOk.env {F : FnA} {pn ln gn fn : List Str} (O : FnOk F pn ln gn [] fn) (L fa : Addr) (cd : Value) (hclo : F.closure.map (·.1) = fn) : FEnv (envF F L fa cd F.closure) L ln F.closure gn where
  kind := O.kind
  loc := rfl
  glob := rfl
  blt := rfl
  hl := fun x hx => let ⟨a, b, _⟩ := O.hl x hx; ⟨a, b⟩
  hc := fun p hp => let ⟨a, b, c⟩ := O.hf p.1 (hclo ▸ List.mem_map_of_mem (f := Prod.fst) hp); ⟨.inr a, lookup_of_mem (by show (F.closure.map (·.1)).Nodup; rw [hclo]; exact O.ndf) hp, b, c⟩
  hg := fun x hx => let ⟨a, b, _⟩ := O.hg x hx; ⟨a, b⟩
theorem FnOk.envC {F : FnA} {pn ln gn cn : List Str} (O : FnOk F pn ln gn cn []) (L fa : Addr) (cd : Value) : FEnv (envF F L fa cd (cellsFrom (L + 1) F.scope.names [])) L ln (cellsFrom (L + 1) F.scope.names []) gn where
  kind := O.kind
  loc := rfl
  glob := rfl
  blt := rfl
  hl := fun x hx => let ⟨a, b, _⟩ := O.hl x hx; ⟨a, b⟩
  hc := fun p hp => let ⟨h1, h2⟩ := O.cellsLook L hp; let ⟨a, b, c⟩ := O.hc p.1 h1; ⟨.inl a, h2, b, c⟩
  hg := fun x hx => let ⟨a, b, _⟩ := O.hg x hx; ⟨a, b⟩

section
variable {C : Cfg} {gl : List (Str × V)} {A : Around} {H H' : AH} {Q : V → AH → Prop}

theorem code_ok {fa : Addr} {F : FnA} {D : Value → Prop} {pn ln gn fn : List Str} {xs : List V} {vals : List (Option V)} {body : List Stmt} {n : Nat} (O : FnOk F pn ln gn [] fn)
    (G : C.Ok gl) (hF : ∀ s, Rel C H s → ∃ cd, D cd ∧ FnAt s.heap fa F cd) (hroom : Room A (n + 1)) (hb : F.body = .stmts body) (hp : ln.take xs.length = pn) (i : Init ln xs vals) {cl : List (Str × Addr)} (hcl : F.closure = cl) (hclo : cl.map (·.1) = fn)
    (h : ∀ L cd A' env, Room A' n → D cd → FEnv env L ln cl gn → env = envF F L fa cd F.closure → WPS C A' env body (fun fl H₁ => ∃ H₂, Sub H₂ H₁ ∧ Q fl.val H₂) ((L, .ns ln vals) :: H)) :
    CodeC C A fa xs Q H :=
  code_fn G hF hroom hb (hp ▸ O.binds) (fun x hx => (O.hl x hx).1) O.nd (fun x hx e => nomatch O.allc x hx e) i (fun L cd hD => h L cd _ _ (hroom.deeper _) hD (hcl ▸ O.env L fa cd (hcl.symm ▸ hclo)) rfl) O.co O.gen O.kind
theorem call_ok {fa : Addr} {F : FnA} {D : Value → Prop} {pn ln gn fn : List Str} {xs : List V} {vals : List (Option V)} {body : List Stmt} {n : Nat} (O : FnOk F pn ln gn [] fn)
    (G : C.Ok gl) (hF : ∀ s, Rel C H s → ∃ cd, D cd ∧ FnAt s.heap fa F cd) (hroom : Room A (n + 1)) (hb : F.body = .stmts body) (hp : ln.take xs.length = pn) (i : Init ln xs vals) {cl : List (Str × Addr)} (hcl : F.closure = cl) (hclo : cl.map (·.1) = fn)
    (h : ∀ L cd A' env, Room A' n → D cd → FEnv env L ln cl gn → env = envF F L fa cd F.closure → WPS C A' env body (fun fl H₁ => ∃ H₂, Sub H₂ H₁ ∧ Q fl.val H₂) ((L, .ns ln vals) :: H)) :
    WPC C A (.ref fa) xs Q H :=
  WPC.of_code (fun s R => let ⟨cd, _, hFn⟩ := hF s R; let ⟨o, fd, ho, hd, _⟩ := hFn.ex; ⟨o, fd, ho, hd⟩) (code_ok O G hF hroom hb hp i hcl hclo h)
theorem call_okE {fa : Addr} {F : FnA} {D : Value → Prop} {pn ln gn fn : List Str} {xs : List V} {vals : List (Option V)} {body : Expr} {n : Nat} (O : FnOk F pn ln gn [] fn)
    (G : C.Ok gl) (hF : ∀ s, Rel C H s → ∃ cd, D cd ∧ FnAt s.heap fa F cd) (hroom : Room A (n + 1)) (hb : F.body = .expr body) (hp : ln.take xs.length = pn) (i : Init ln xs vals) {cl : List (Str × Addr)} (hcl : F.closure = cl) (hclo : cl.map (·.1) = fn)
    (h : ∀ L cd A' env, Room A' n → D cd → FEnv env L ln cl gn → env = envF F L fa cd F.closure → WP C A' (VRel C.X) (eval body env) (fun v H₁ => ∃ H₂, Sub H₂ H₁ ∧ Q v H₂) ((L, .ns ln vals) :: H)) :
    WPC C A (.ref fa) xs Q H :=
  call_fnE G hF hroom hb (hp ▸ O.binds) (fun x hx => (O.hl x hx).1) O.nd (fun x hx e => nomatch O.allc x hx e) i (fun L cd hD => h L cd _ _ (hroom.deeper _) hD (hcl ▸ O.env L fa cd (hcl.symm ▸ hclo)) rfl) O.co O.gen O.kind
theorem call_okC {fa : Addr} {F : FnA} {cd : Value} {pn ln gn cn : List Str} {xs : List V} {vals : List (Option V)} {body : List Stmt} {n : Nat} (O : FnOk F pn ln gn cn [])
    (G : C.Ok gl) (hF : ∀ s, Rel C H s → FnAt s.heap fa F cd) (hroom : Room A (n + 1)) (hb : F.body = .stmts body) (hclo : F.closure = []) (hpl : pn.length = xs.length)
    (hv : ln.length = vals.length) (hvals : ∀ (k : Nat) x u, ln[k]? = some x → vals[k]? = some (some u) → At pn (xs.map some) x u)
    (h : ∀ L cs A' env, cs.map (·.1) = cn → Room A' n → FEnv env L ln cs gn → env = envF F L fa cd cs → ∃ Hc, CInit pn (xs.map some) cs Hc ∧ WPS C A' env body (fun fl H₁ => ∃ H₂, Sub H₂ H₁ ∧ Q fl.val H₂) (Hc ++ (L, .ns ln vals) :: H)) :
    WPC C A (.ref fa) xs Q H :=
  call_fnC G hF hroom hb hclo O.binds hpl O.ndp (fun x hx => (O.hl x hx).1) O.nd (fun x hx => by
      rcases O.pk x hx with h | h
      · exact .inl (O.hl x h).1
      · exact .inr (O.hc x h).1)
    (fun L x hx hk => by
      have hm : x ∈ cn := by
        rcases O.pk x hx with h | h
        · rw [(O.hl x h).1] at hk; cases hk
        · exact h
      rw [← O.cells L] at hm
      obtain ⟨p, hp, rfl⟩ := List.mem_map.mp hm
      rw [(O.cellsLook L hp).2]; rfl)
    (fun L p hp => ⟨(O.hc p.1 (O.cellsLook L hp).1).1, (O.cellsLook L hp).2⟩) hv hvals
    (fun L => by
      obtain ⟨Hc, ci, hw⟩ := h L _ _ _ (O.cells L) (hroom.deeper _) (O.envC L fa cd) rfl
      exact ⟨Hc, ci, hw⟩) O.co O.gen O.kind

/-- a comprehension's frame's own names -/
structure CpOk (sc : Scope) (ln gn fn : List Str) : Prop where
  hl : ∀ x ∈ ln, sc.names.lookup x = some .local ∧ dbg x
  hg : ∀ x ∈ gn, sc.names.lookup x = some .globalImplicit ∧ dbg x
  hf : ∀ x ∈ fn, sc.names.lookup x = some .free ∧ dbg x
  all : ∀ x ∈ sc.names, x.2 = .free → x.1 ∈ fn
  nocell : ∀ x ∈ sc.names, x.2 ≠ .cell
  nodup : (sc.names.map (·.1)).Nodup
  nd : ln.Nodup
  kind : sc.kind = .function

theorem closure_go {env : Env} {cn : List (Str × Addr)} (hc : ∀ p ∈ cn, env.cells.lookup p.1 = some p.2) : ∀ (names : List (Str × NameKind)) (fs : List Str) (cs : List Addr) (acc : List (Str × Addr)),
    (names.filter (·.2 == .free)).map (·.1) = fs → fs.length = cs.length → (∀ p ∈ fs.zip cs, p ∈ cn) →
    (forIn names acc (fun x r => if (x.2 == NameKind.free) = true then (do let a ← cellOf env x.1; pure (ForInStep.yield ((x.1, a) :: r))) else pure (ForInStep.yield r)) : Sem (List (Str × Addr))) = pure ((fs.zip cs).reverse ++ acc)
  | [], fs, cs, acc, e, _, _ => by subst e; rfl
  | (n, k) :: names, fs, cs, acc, e, hl, hm => by
    rw [List.forIn_cons]
    by_cases hk : (k == NameKind.free) = true
    · rw [List.filter_cons_of_pos (by simpa using hk)] at e
      cases fs with
      | nil => simp at e
      | cons f fs =>
        cases cs with
        | nil => simp at hl
        | cons c cs =>
          simp only [List.map_cons, List.cons.injEq] at e
          obtain ⟨rfl, e⟩ := e
          have h1 := hc _ (hm (n, c) (by simp))
          have h2 : cellOf env n = pure c := by
            unfold cellOf
            simp only [] at h1
            rw [h1]
          dsimp only
          rw [if_pos hk, h2]
          simp only [pure_bind]
          rw [closure_go hc names fs cs _ e (by simpa using hl) fun p hp => hm p (by simp [hp])]
          simp
    · rw [List.filter_cons_of_neg (by simpa using hk)] at e
      dsimp only
      rw [if_neg hk]
      simp only [pure_bind]
      exact closure_go hc names fs cs acc e hl hm
theorem closure_of {env : Env} {L : Addr} {ln gn fs : List Str} {cn : List (Str × Addr)} {cs : List Addr} {sc : Scope} (FE : FEnv env L ln cn gn) (e : (sc.names.filter (·.2 == .free)).map (·.1) = fs) (hl : fs.length = cs.length) (hm : ∀ p ∈ fs.zip cs, p ∈ cn) :
    closureFor sc env = pure (fs.zip cs).reverse := by
  have := closure_go (fun p hp => (FE.hc p hp).2.1) sc.names fs cs [] e hl hm
  show ((forIn sc.names [] (fun x r => if (x.2 == NameKind.free) = true then (do let a ← cellOf env x.1; pure (ForInStep.yield ((x.1, a) :: r))) else pure (ForInStep.yield r)) : Sem (List (Str × Addr))) >>= fun r => pure r) = _
  rw [this]
  simp

theorem lookup_relabel {env : Env} : ∀ (names : List (Str × NameKind)) (x : Str),
    (names.map fun (n, k) => if (k == NameKind.free && env.scope.kind == .function && env.kindOf n == some .cell) then (n, NameKind.cell) else (n, k)).lookup x =
      (names.lookup x).map fun k => if (k == NameKind.free && env.scope.kind == .function && env.kindOf x == some .cell) then NameKind.cell else k
  | [], x => rfl
  | (n, k) :: r, x => by
    rw [List.map_cons, List.lookup_cons, List.lookup_cons]
    by_cases hc : (k == NameKind.free && env.scope.kind == .function && env.kindOf n == some .cell) = true
    · rw [if_pos hc]
      dsimp only
      cases q : x == n with
      | true =>
        have : x = n := beq_iff_eq.mp q
        subst this
        simp only [Option.map_some, if_pos hc]
      | false => exact lookup_relabel r x
    · rw [if_neg hc]
      dsimp only
      cases q : x == n with
      | true =>
        have : x = n := beq_iff_eq.mp q
        subst this
        simp only [Option.map_some, if_neg hc]
      | false => exact lookup_relabel r x
theorem CpOk.env {env : Env} {L L' : Addr} {ln ln' gn gn' fs : List Str} {cn : List (Str × Addr)} {cs : List Addr} {sc : Scope} (O : CpOk sc ln gn fs) (FE : FEnv env L' ln' cn gn') (hl : fs.length = cs.length) (ndf : fs.Nodup) :
    FEnv (compEnvC sc (fs.zip cs).reverse L env) L ln (fs.zip cs).reverse gn where
  kind := O.kind
  loc := rfl
  glob := FE.glob
  blt := FE.blt
  hl := fun x hx => by
    obtain ⟨a, b, _⟩ := O.hl x hx
    refine ⟨?_, b⟩
    show List.lookup x (relabel sc env).names = _
    unfold relabel
    rw [lookup_relabel, a]; rfl
  hg := fun x hx => by
    obtain ⟨a, b, _⟩ := O.hg x hx
    refine ⟨?_, b⟩
    show List.lookup x (relabel sc env).names = _
    unfold relabel
    rw [lookup_relabel, a]; rfl
  hc := fun p hp => by
    have hm : (fs.zip cs).map (·.1) = fs := List.map_fst_zip (Nat.le_of_eq hl)
    have hp' : p ∈ fs.zip cs := List.mem_reverse.mp hp
    obtain ⟨a, b, c⟩ := O.hf p.1 (hm ▸ List.mem_map_of_mem (f := Prod.fst) hp')
    refine ⟨?_, lookup_rev (by rw [hm]; exact ndf) hp', b, c⟩
    show List.lookup p.1 (relabel sc env).names = _ ∨ List.lookup p.1 (relabel sc env).names = _
    unfold relabel
    rw [lookup_relabel, a]
    simp only [Option.map_some]
    split
    · exact .inl rfl
    · exact .inr rfl

variable {env : Env} {L : Addr} {ln gn : List Str} {cn : List (Str × Addr)} {pos tpos : Pos} {QF : Fl → AH → Prop}
theorem nodup_lookup {sc : Scope} (nd : (sc.names.map (·.1)).Nodup) : ∀ x ∈ sc.names, x.2 = .local → sc.names.lookup x.1 = some .local := fun x hx e => by
  rw [← e]; exact lookup_of_mem nd hx
theorem FEnv.block (FE : FEnv env L ln cn gn) : env.blockKind = .function := by
  unfold Env.blockKind
  rw [FE.kind]; rfl
theorem FEnv.inter (FE : FEnv env L ln cn gn) : interactive env = false := by
  unfold interactive
  rw [FE.kind]; rfl
theorem swaps_true (FE : FEnv env L ln cn gn) {elt : Expr} {gens : List Comprehension} {scope : Scope} {p tp : Pos} {t : Str} {l : Nat} (ht : t ∈ ln) (hline : (tp.line == p.line) = true) (hn : (scope.names.any fun x => x.1 == t && (x.2 == .local || x.2 == .cell)) = false) :
    swapsWith (.ListComp elt gens scope p) (some (.Name t tp)) l env = pure true := by
  have h1 := FE.block
  have h2 := (FE.hl t ht).1
  show pure (env.blockKind == .function && env.kindOf t == some .local && tp.line == p.line && !(scope.names.any fun x => x.1 == t && (x.2 == .local || x.2 == .cell))) = _
  rw [h1, h2, hline, hn]; rfl

/-- a list comprehension, its scope's record told -/
theorem wp_LC {elt target iter : Expr} {ifs : List Expr} {scope : Scope} {fs ln' gn' : List Str} {cs : List Addr} (FE : FEnv env L ln cn gn) (O : CpOk scope ln' gn' fs) (e : (scope.names.filter (·.2 == .free)).map (·.1) = fs) (hm : ∀ p ∈ fs.zip cs, p ∈ cn)
    (h : WPI C A env iter target (fun C' Item H₁ => ∀ a c cenv, FEnv cenv c ln' (fs.zip cs).reverse gn' → CompTurns C C' A cenv target ifs elt a Item
      (fun acc H₂ => ∃ vals H₃, Pick (c, .ns ln' vals) H₂ H₃ ∧ Q (.ref a) H₃) ((c, .ns ln' (ln'.map fun _ => none)) :: (a, .list []) :: H₁)) H)
    (hl : fs.length = cs.length := by with_unfolding_all rfl) (ndf : fs.Nodup := by decide +kernel)
    (hs : ∀ x, foldedSetIterable iter env x = pure x := by intro _; with_unfolding_all rfl) :
    WP C A (VRel C.X) (eval (.ListComp elt [⟨target, iter, ifs, 0⟩] scope pos) env) Q H :=
  wp_ListComp (closure_of FE e hl hm) O.nocell O.kind (nodup_lookup O.nodup) O.nd (fun s R => wpAny_mono (h s R) (fun v s₁ h₁ => wpAny_mono h₁ (fun it s₂ ⟨l, fp, wr, J, Item, H', q, r⟩ => ⟨l, fp, wr, J, Item, H', fun a c => q a c _ (O.env FE hl ndf), r⟩) fun _ _ e => e) fun _ _ e => e) hs
theorem wp1_LC {elt target iter : Expr} {ifs : List Expr} {scope : Scope} {fs ln' gn' : List Str} {cs : List Addr} {y : Str} {py spos : Pos} (FE : FEnv env L ln cn gn) (O : CpOk scope ln' gn' fs) (e : (scope.names.filter (·.2 == .free)).map (·.1) = fs) (hm : ∀ p ∈ fs.zip cs, p ∈ cn)
    (hy : y ∈ ln) (hn : (scope.names.any fun x => x.1 == y && (x.2 == .local || x.2 == .cell)) = false)
    (h : WPI C A env iter target (fun C' Item H₁ => ∀ a c cenv, FEnv cenv c ln' (fs.zip cs).reverse gn' → CompTurns C C' A cenv target ifs elt a Item
      (fun acc H₂ => Op1 C A URel (storeName env y) (.ref a) (fun _ H₃ => ∃ vals H₄, Pick (c, .ns ln' vals) H₃ H₄ ∧ QF .next H₄) H₂) ((c, .ns ln' (ln'.map fun _ => none)) :: (a, .list []) :: H₁)) H)
    (hline : (py.line == pos.line) = true := by with_unfolding_all rfl) (hl : fs.length = cs.length := by with_unfolding_all rfl) (ndf : fs.Nodup := by decide +kernel)
    (hs : ∀ x, foldedSetIterable iter env x = pure x := by intro _; with_unfolding_all rfl) :
    WP1 C A env (.Assign [.Name y py] (.ListComp elt [⟨target, iter, ifs, 0⟩] scope pos) spos) QF H :=
  wp1_Assign_ListComp (swaps_true FE hy hline hn) (closure_of FE e hl hm) O.nocell O.kind (nodup_lookup O.nodup) O.nd (fun s R => wpAny_mono (h s R) (fun v s₁ h₁ => wpAny_mono h₁ (fun it s₂ ⟨l, fp, wr, J, Item, H', q, r⟩ => ⟨l, fp, wr, J, Item, H', fun a c => q a c _ (O.env FE hl ndf), r⟩) fun _ _ e => e) fun _ _ e => e) hs
noncomputable def notStar : Expr → Bool
  | .Starred .. => false
  | _ => true
theorem swap2 (FE : FEnv env L ln cn gn) {a b : Str} {pa pb p p' : Pos} {k k' : Nat} {x y : Expr} (ha : a ∈ ln) (hb : b ∈ ln) (hab : (a == b) = false) (h1 : (pb.line == pa.line) = true) (hx : notStar x = true) (hy : notStar y = true)
    (hf : ([x, y].all (foldedForSure 8)) = false) (hc : ([x, y].all (constantsAlone 8)) = false) :
    swappedStores [.Tuple [.Name a pa, .Name b pb] k p] (.Tuple [x, y] k' p') env = pure (some [a, b]) := by
  have e1 := FE.block
  have e2 := (FE.hl a ha).1
  have e3 := (FE.hl b hb).1
  unfold swappedStores
  have he : [a, b].eraseDups = [a, b] := by
    have : (b == a) = false := by rw [beq_eq_false_iff_ne] at hab ⊢; exact fun e => hab e.symm
    simp [List.eraseDups_cons, this]
  dsimp only
  rw [e1, if_neg (by simp)]
  have hs : ∀ z, notStar z = true → (match z with | Expr.Starred _ _ => true | _ => false) = false := by intro z hz; cases z <;> first | rfl | cases hz
  have h3 : ([x, y].any fun x => match x with | Expr.Starred _ _ => true | _ => false) = false := by
    rw [List.any_cons, List.any_cons, List.any_nil, hs x hx, hs y hy]; rfl
  refine (if_neg (by intro h; exact Bool.false_ne_true (h3.symm.trans h))).trans ?_
  generalize hL : List.filterMap _ [Expr.Name a pa, Expr.Name b pb] = l
  have hl : l = [a, b] := by
    rw [← hL]
    have h2 : ((Option.map (fun x : Expr => x.pos.line) [Expr.Name a pa, Expr.Name b pb].head?).getD 0) = pa.line := rfl
    rw [h2]
    simp only [List.filterMap_cons, List.filterMap_nil, e2, e3, h1, beq_self_eq_true, Bool.and_self, if_true]
  subst hl
  rw [if_neg (by rw [he]; simp), if_neg (by rw [hf]; decide), if_neg (by rw [hc]; decide)]
end
end
noncomputable section
-- plain facts: digits, splices, bits
noncomputable def digs (x n k : Nat) : List Nat := (List.range k).map fun i => x / 2 ^ (n * i) % 2 ^ n
theorem digs_length (x n k : Nat) : (digs x n k).length = k := by simp [digs]
theorem digs_one {x n : Nat} (h : x < 2 ^ n) : digs x n 1 = [x] := by simp [digs, Nat.mod_eq_of_lt h]
theorem digs_add (x n j k : Nat) : digs x n (j + k) = digs (x % 2 ^ (n * j)) n j ++ digs (x / 2 ^ (n * j)) n k := by
  unfold digs
  rw [List.range_add, List.map_append]
  congr 1
  · refine List.map_congr_left fun i hi => ?_
    have hi : i < j := List.mem_range.mp hi
    have h1 : n * j = n * i + n * (j - i) := by rw [← Nat.mul_add]; congr 1; lia
    rw [h1, Nat.pow_add, Nat.mod_mul_right_div_self]
    have h2 : n * (j - i) = n + n * (j - i - 1) := by
      have : j - i = 1 + (j - i - 1) := by lia
      rw [this, Nat.mul_add]; simp
    rw [h2, Nat.pow_add, Nat.mod_mul_right_mod]
  · rw [List.map_map]
    refine List.map_congr_left fun i _ => ?_
    show x / 2 ^ (n * (j + i)) % 2 ^ n = _
    rw [Nat.mul_add, Nat.pow_add, Nat.div_div_eq_div_mul]
noncomputable def splice {α : Type} (vs : List α) (i : Nat) (D : List α) : List α := vs.take i ++ D ++ vs.drop (i + D.length)
theorem splice_length {α : Type} {vs : List α} {i : Nat} {D : List α} (h : i + D.length ≤ vs.length) : (splice vs i D).length = vs.length := by
  simp [splice]; lia
theorem splice_one {α : Type} {vs : List α} {i : Nat} {x : α} (h : i < vs.length) : vs.set i x = splice vs i [x] := by
  rw [splice, List.set_eq_take_append_cons_drop, if_pos h]; simp
theorem splice_splice {α : Type} {vs : List α} {i : Nat} {D E : List α} (h : i + D.length + E.length ≤ vs.length) : splice (splice vs i D) (i + D.length) E = splice vs i (D ++ E) := by
  have h1 : (vs.take i).length = i := by simp; lia
  unfold splice
  have h2 : List.take (i + D.length) (vs.take i ++ D ++ vs.drop (i + D.length)) = vs.take i ++ D := by
    rw [List.take_append_of_le_length (by simp; lia)]
    exact List.take_of_length_le (by simp; lia)
  have h3 : List.drop (i + D.length + E.length) (vs.take i ++ D ++ vs.drop (i + D.length)) = vs.drop (i + (D ++ E).length) := by
    rw [List.drop_append]
    have e1 : (vs.take i ++ D).length = i + D.length := by simp; lia
    rw [e1, List.drop_of_length_le (by rw [e1]; lia), List.nil_append, List.drop_drop, List.length_append]
    congr 1
    lia
  rw [h2, h3]
  simp
theorem and_high (x s : Nat) : x &&& (x / 2 ^ s * 2 ^ s) = x / 2 ^ s * 2 ^ s := by
  refine Nat.eq_of_testBit_eq fun i => ?_
  rw [Nat.testBit_and, ← Nat.shiftRight_eq_div_pow, ← Nat.shiftLeft_eq, Nat.testBit_shiftLeft, Nat.testBit_shiftRight]
  by_cases h : s ≤ i
  · have : s + (i - s) = i := by lia
    simp [h, this]
  · simp [h]
theorem xor_low (x s : Nat) : Builtin.bitXor (x : Int) ((x / 2 ^ s * 2 ^ s : Nat) : Int) = ((x % 2 ^ s : Nat) : Int) := by
  rw [bitXor_and]
  have h : Builtin.bitAnd (x : Int) ((x / 2 ^ s * 2 ^ s : Nat) : Int) = ((x / 2 ^ s * 2 ^ s : Nat) : Int) := by
    unfold Builtin.bitAnd
    have h1 : decide (0 ≤ (x : Int)) = true := by simp
    have h2 : decide (0 ≤ ((x / 2 ^ s * 2 ^ s : Nat) : Int)) = true := decide_eq_true (Int.natCast_nonneg _)
    rw [h1, h2]
    show (((x : Int).toNat &&& ((x / 2 ^ s * 2 ^ s : Nat) : Int).toNat : Nat) : Int) = _
    rw [Int.toNat_natCast, Int.toNat_natCast, and_high]
  rw [h]
  have := Nat.div_add_mod x (2 ^ s)
  have h3 : 2 ^ s * (x / 2 ^ s) = x / 2 ^ s * 2 ^ s := Nat.mul_comm ..
  lia
theorem shr_nat (x s : Nat) : (x : Int).fdiv (2 ^ (s : Int).toNat) = ((x / 2 ^ s : Nat) : Int) := by
  rw [Int.toNat_natCast, Int.fdiv_eq_ediv_of_nonneg _ (by exact_mod_cast Nat.zero_le _)]
  norm_cast
theorem shl_nat (x s : Nat) : (x : Int) * 2 ^ (s : Int).toNat = ((x * 2 ^ s : Nat) : Int) := by
  rw [Int.toNat_natCast]; norm_cast
theorem Upd.of_split {a : Addr} {x y : AO} : ∀ {pre post : AH}, Upd a x y (pre ++ (a, x) :: post) (pre ++ (a, y) :: post)
  | [], _ => .head
  | _ :: pre, _ => .tail (Upd.of_split (pre := pre))

theorem bits_lt (x : Nat) : x < 2 ^ Builtin.Int.intBits (x : Int) := by
  unfold Builtin.Int.intBits
  split
  · rename_i h
    have : x = 0 := by simpa using h
    subst this; decide
  · exact Nat.lt_log2_self
theorem bits_pos {x : Nat} (h : x ≠ 0) : 0 < Builtin.Int.intBits (x : Int) := by
  unfold Builtin.Int.intBits
  rw [if_neg (by simpa using h)]; lia
/-- how many figures -/
noncomputable def ndig (x n : Nat) : Nat := (Builtin.Int.intBits (x : Int) + n - 1) / n
theorem lt_ndig {x n : Nat} (hn : 1 ≤ n) : x < 2 ^ (n * ndig x n) := by
  refine Nat.lt_of_lt_of_le (bits_lt x) (Nat.pow_le_pow_right (by decide) ?_)
  unfold ndig
  have h1 := Nat.div_add_mod (Builtin.Int.intBits (x : Int) + n - 1) n
  have h2 := Nat.mod_lt (Builtin.Int.intBits (x : Int) + n - 1) (show 0 < n by lia)
  lia
theorem ndig_pos {x n : Nat} (hn : 1 ≤ n) (h : x ≠ 0) : 0 < ndig x n := by
  unfold ndig
  exact Nat.div_pos (by have := bits_pos h; lia) hn
theorem ndig_le {x n k : Nat} (hn : 1 ≤ n) (h : x < 2 ^ (n * k)) : ndig x n ≤ k := by
  unfold ndig
  have h1 : Builtin.Int.intBits (x : Int) ≤ n * k := intBits_le (by rw [Int.natAbs_natCast]; exact h)
  have h2 : Builtin.Int.intBits (x : Int) + n - 1 ≤ n * k + (n - 1) := by lia
  refine Nat.le_trans (Nat.div_le_div_right h2) ?_
  rw [Nat.mul_add_div (by lia)]
  have : (n - 1) / n = 0 := Nat.div_eq_of_lt (by lia)
  lia
theorem fdiv_nat (a b : Nat) : (a : Int).fdiv (b : Int) = ((a / b : Nat) : Int) := by rw [Int.fdiv_eq_ediv_of_nonneg _ (by lia)]; rfl
theorem fmod_nat (a b : Nat) : (a : Int).fmod (b : Int) = ((a % b : Nat) : Int) := by rw [Int.fmod_eq_emod_of_nonneg _ (by lia)]; rfl

section
variable {C : Cfg} {gl : List (Str × V)} {A : Around} {env : Env} {c P : Addr} {qual name : Str} {params : Arguments} {scope : Scope} {clos : List (Str × Addr)} {pos : Pos} {H H' : AH} {Q : V → AH → Prop} {QF : Fl → AH → Prop}
theorem wp1_DefF {b : List Stmt} (F : FnA) {q : Str} {cl : List (Str × Addr)} (G : C.Ok gl) (hcode : env.code = .ref c) (hC : CodeHd C.B c P) (hglob : env.globals = mainGlobals) (hP : (P, AO.tab q) ∈ H) (hcl : closureFor scope env = pure cl)
    (h : ∀ f, Op1 C A URel (storeName env name) (.ref f) (fun _ H₂ => QF .next H₂) ((f, .fn F) :: H)) (hq : qualnameIn env name name = q) (hFe : (⟨q, params, .stmts b, scope, cl⟩ : FnA) = F := by rfl)
    (hd : defaultsOf params env = ([], []) := by with_unfolding_all rfl) (ha : annTrees params none env = [] := by with_unfolding_all rfl) : WP1 C A env (.FunctionDef name params b [] none [] scope none name pos) QF H :=
  wp1_Def G hcode hC hglob hP hcl (fun f => hFe.symm ▸ h f) hq hd ha
theorem wp_LambdaF {e : Expr} (F : FnA) {q : Str} {cl : List (Str × Addr)} (G : C.Ok gl) (hcode : env.code = .ref c) (hC : CodeHd C.B c P) (hglob : env.globals = mainGlobals) (hP : (P, AO.tab q) ∈ H) (hcl : closureFor scope env = pure cl)
    (k : ∀ f, Q (.ref f) ((f, .fn F) :: H)) (hq : env.qual ++ "<lambda>" = q) (hFe : (⟨q, params, .expr e, scope, cl⟩ : FnA) = F := by rfl)
    (hd : defaultsOf params env = ([], []) := by with_unfolding_all rfl) : WP C A (VRel C.X) (eval (.Lambda params e scope pos) env) Q H :=
  wp_Lambda G hcode hC hglob hP hcl (fun f => hFe.symm ▸ k f) hq hd
theorem ndig_mul_le {x n : Nat} : n * ndig x n ≤ Builtin.Int.intBits (x : Int) + n - 1 := Nat.mul_div_le _ _
theorem qual_in {L fa : Addr} {F : FnA} {cd : Value} {cs : List (Str × Addr)} {k : NameKind} (hk : F.scope.names.lookup name = some k) (hne : k ≠ .globalExplicit) (hq : F.qual ++ ".<locals>." ++ name = qual) : qualnameIn (envF F L fa cd cs) name name = qual := by
  unfold qualnameIn
  have h1 : (envF F L fa cd cs).kindOf name = some k := hk
  rw [h1, if_neg (by simpa using hne)]
  exact hq

theorem wps_ret {A : Around} {rest : List Stmt} {v : V} (h : QF (.ret v) H) : Behind C A env rest QF (.ret v) H := h
theorem wps_brk {A : Around} {rest : List Stmt} (h : QF .brk H) : Behind C A env rest QF .brk H := h
theorem wps_cont {A : Around} {rest : List Stmt} (h : QF .cont H) : Behind C A env rest QF .cont H := h
theorem turn_next {P : AH → Prop} (h : P H) : TurnEnd P QF .next H := h
theorem turn_cont {P : AH → Prop} (h : P H) : TurnEnd P QF .cont H := h
theorem turn_brk {P : AH → Prop} (h : QF .next H) : TurnEnd P QF .brk H := h
theorem turn_ret {P : AH → Prop} {v : V} (h : QF (.ret v) H) : TurnEnd P QF (.ret v) H := h
theorem splice_all {α : Type} {k : Nat} {z : α} {D : List α} (h : D.length = k) : splice (List.replicate k z) 0 D = D := by
  unfold splice
  rw [Nat.zero_add, h, List.drop_of_length_le (by simp)]
  simp
end

/-- the number of some figures, the lowest first -/
noncomputable def d2i (n : Nat) : List Int → Int
  | [] => 0
  | d :: ds => d + 2 ^ n * d2i n ds
theorem d2i_append (n : Nat) : ∀ xs ys : List Int, d2i n (xs ++ ys) = d2i n xs + 2 ^ (n * xs.length) * d2i n ys
  | [], ys => by simp [d2i]
  | x :: xs, ys => by
    rw [List.cons_append, d2i, d2i_append n xs ys, d2i, List.length_cons, Nat.mul_add, Nat.mul_one, Int.pow_add, Int.mul_add, ← Int.mul_assoc, Int.mul_comm (2 ^ n) (2 ^ (n * xs.length))]
    lia
theorem d2i_bound (n B : Nat) : ∀ ds : List Int, (∀ d ∈ ds, d.natAbs < 2 ^ B) → (d2i n ds).natAbs < 2 ^ (B + (n + 1) * ds.length)
  | [], _ => by simp [d2i]; exact Nat.two_pow_pos _
  | d :: ds, h => by
    have h1 := h d (.head _)
    have h2 := d2i_bound n B ds fun e he => h e (.tail _ he)
    rw [d2i, List.length_cons, Nat.mul_add, Nat.mul_one]
    have h3 : (2 ^ n * d2i n ds : Int).natAbs = 2 ^ n * (d2i n ds).natAbs := by rw [Int.natAbs_mul, Int.natAbs_pow]; rfl
    have h4 := Int.natAbs_add_le d (2 ^ n * d2i n ds)
    rw [h3] at h4
    have h5 : 2 ^ n * (d2i n ds).natAbs + 2 ^ n ≤ 2 ^ n * 2 ^ (B + (n + 1) * ds.length) := by
      have := Nat.mul_le_mul_left (2 ^ n) (show (d2i n ds).natAbs + 1 ≤ 2 ^ (B + (n + 1) * ds.length) from h2)
      rw [Nat.mul_add, Nat.mul_one] at this; exact this
    have h6 : 2 ^ (B + ((n + 1) * ds.length + (n + 1))) = 2 * (2 ^ n * 2 ^ (B + (n + 1) * ds.length)) := by
      rw [← Nat.pow_add, ← Nat.pow_succ']; congr 1; lia
    have h7 : 2 ^ B ≤ 2 ^ n * 2 ^ (B + (n + 1) * ds.length) := by
      rw [← Nat.pow_add]; exact Nat.pow_le_pow_right (by decide) (by lia)
    have h8 := Nat.two_pow_pos n
    lia
/-- the first values of a body's names, for call_okC -/
inductive VOk (pn : List Str) (xs : List (Option V)) : List Str → List (Option V) → Prop
  | rest {ln vs} (h : vs.all Option.isNone = true) : VOk pn xs ln vs
  | some {y ln u vs} (h : At pn xs y u) (r : VOk pn xs ln vs) : VOk pn xs (y :: ln) (Option.some u :: vs)
theorem VOk.get {pn : List Str} {xs : List (Option V)} {ln : List Str} {vs : List (Option V)} (h : VOk pn xs ln vs) : ∀ (k : Nat) x u, ln[k]? = Option.some x → vs[k]? = Option.some (Option.some u) → At pn xs x u := by
  induction h with
  | rest h =>
    intro k x u _ h2
    have := List.all_eq_true.mp h _ (List.mem_of_getElem? h2)
    simp at this
  | some ha _ ih =>
    intro k x u h1 h2
    cases k with
    | zero => simp at h1 h2; subst h1 h2; exact ha
    | succ k => exact ih k x u (by simpa using h1) (by simpa using h2)
theorem cells1 {cs : List (Str × Addr)} {x : Str} (h : cs.map (·.1) = [x]) : ∃ c, cs = [(x, c)] := by
  match cs, h with
  | [(_, c)], h => simp only [List.map_cons, List.map_nil, List.cons.injEq, and_true] at h; exact ⟨c, by rw [h]⟩
theorem cells_cons {cs : List (Str × Addr)} {x : Str} {r : List Str} (h : cs.map (·.1) = x :: r) : ∃ c cs', cs = (x, c) :: cs' ∧ cs'.map (·.1) = r := by
  match cs, h with
  | (_, c) :: cs', h => simp only [List.map_cons, List.cons.injEq] at h; exact ⟨c, cs', by rw [h.1], h.2⟩
theorem cells2 {cs : List (Str × Addr)} {x y : Str} (h : cs.map (·.1) = [x, y]) : ∃ c d, cs = [(x, c), (y, d)] := by
  obtain ⟨c, cs', rfl, h'⟩ := cells_cons h
  obtain ⟨d, rfl⟩ := cells1 h'
  exact ⟨c, d, rfl⟩
theorem cells3 {cs : List (Str × Addr)} {x y z : Str} (h : cs.map (·.1) = [x, y, z]) : ∃ c d e, cs = [(x, c), (y, d), (z, e)] := by
  obtain ⟨c, cs', rfl, h'⟩ := cells_cons h
  obtain ⟨d, e, rfl⟩ := cells2 h'
  exact ⟨c, d, e, rfl⟩
end
noncomputable section
/-- a heap with one place open, with two -/
inductive Hole (a : Addr) (x : AO) : AH → (AO → AH) → Prop
  | head {r} : Hole a x ((a, x) :: r) (fun y => (a, y) :: r)
  | tail {p r k} : Hole a x r k → Hole a x (p :: r) (fun y => p :: k y)
inductive Hole2 (a : Addr) (x : AO) (b : Addr) (y : AO) : AH → (AO → AO → AH) → Prop
  | fst {r k} : Hole b y r k → Hole2 a x b y ((a, x) :: r) (fun u v => (a, u) :: k v)
  | snd {r k} : Hole a x r k → Hole2 a x b y ((b, y) :: r) (fun u v => (b, v) :: k u)
  | tail {p r k} : Hole2 a x b y r k → Hole2 a x b y (p :: r) (fun u v => p :: k u v)
theorem Hole.eq {a x H K} (h : Hole a x H K) : H = K x := by
  induction h with
  | head => rfl
  | tail _ ih => rw [ih]
theorem Hole.upd {a x H K} (h : Hole a x H K) (u v : AO) : Upd a u v (K u) (K v) := by
  induction h with
  | head => exact .head
  | tail _ ih => exact .tail ih
theorem Hole.mem {a x H K} (h : Hole a x H K) (u : AO) : (a, u) ∈ K u := by
  induction h with
  | head => exact .head _
  | tail _ ih => exact .tail _ ih
theorem Hole2.eq {a x b y H K} (h : Hole2 a x b y H K) : H = K x y := by
  induction h with
  | fst h => rw [h.eq]
  | snd h => rw [h.eq]
  | tail _ ih => rw [ih]
theorem Hole2.upd1 {a x b y H K} (h : Hole2 a x b y H K) (u u' v : AO) : Upd a u u' (K u v) (K u' v) := by
  induction h with
  | fst h => exact .head
  | snd h => exact .tail (h.upd u u')
  | tail _ ih => exact .tail ih
theorem Hole2.upd2 {a x b y H K} (h : Hole2 a x b y H K) (u v v' : AO) : Upd b v v' (K u v) (K u v') := by
  induction h with
  | fst h => exact .tail (h.upd v v')
  | snd h => exact .head
  | tail _ ih => exact .tail ih
theorem Hole2.mem1 {a x b y H K} (h : Hole2 a x b y H K) (u v : AO) : (a, u) ∈ K u v := (h.upd1 u u v).mem
theorem Hole2.mem2 {a x b y H K} (h : Hole2 a x b y H K) (u v : AO) : (b, v) ∈ K u v := (h.upd2 u v v).mem
theorem Hole.re {a x H K} (h : Hole a x H K) (u : AO) : Hole a u (K u) K := by
  induction h with
  | head => exact .head
  | tail _ ih => exact .tail ih
theorem Hole2.re {a x b y H K} (h : Hole2 a x b y H K) (u v : AO) : Hole2 a u b v (K u v) K := by
  induction h with
  | fst h => exact .fst (h.re v)
  | snd h => exact .snd (h.re u)
  | tail _ ih => exact .tail ih
end
noncomputable section
-- the reader's own meaning, over signs
noncomputable def isW (c : Nat) : Bool := c == 10 || c == 9 || c == 13 || c == 32
noncomputable def lnN (n : Int) (c : Nat) : Int := if c = 10 then n + 1 else n
/-- within quotes -/
noncomputable def qGo : List Nat → List Nat → Int → List Nat × List Nat × Int
  | tok, [], n => (tok, [], n)
  | tok, c :: cs, n => if c = 34 then (tok, cs, n) else if c = 92 then (match cs with | [] => (tok, [], n) | d :: ds => qGo (tok ++ [d]) ds (lnN n d)) else qGo (tok ++ [c]) cs (lnN n c)
/-- a bare word's tail -/
noncomputable def bGo : List Nat → List Nat → Int → List Nat × List Nat × Int
  | tok, [], n => (tok, [], n)
  | tok, c :: cs, n => if isW c then (tok, cs, lnN n c) else if c = 92 then (match cs with | [] => (tok, [], n) | d :: ds => bGo (tok ++ [d]) ds (lnN n d)) else bGo (tok ++ [c]) cs (lnN n c)
noncomputable def tGo : List Nat → Int → List Nat × List Nat × Int
  | [], n => ([], [], n)
  | c :: cs, n => if isW c then tGo cs (lnN n c) else if c = 34 then qGo [] cs n else if c = 92 then (match cs with | [] => ([], [], n) | d :: ds => bGo [d] ds (lnN n d)) else bGo [c] cs (lnN n c)
noncomputable abbrev mkS (l : List Nat) : Str := ⟨l.toArray⟩
theorem mkS_app (l m : List Nat) : mkS l ++ mkS m = mkS (l ++ m) := by
  show Str.mk _ = Str.mk _
  simp
theorem mkS_nil : ("" : Str) = mkS [] := by decide +kernel
theorem ws_in (c : Nat) : (!(Builtin.Str.occurrences ("\n\t\r " : Str) ⟨#[c]⟩ 0 ("\n\t\r " : Str).length 1).isEmpty) = isW c := by
  rw [StrLaws.found_one]
  have : ("\n\t\r " : Str).cps.toList = [10, 9, 13, 32] := by decide +kernel
  rw [this]
  unfold isW
  by_cases h1 : c = 10 <;> by_cases h2 : c = 9 <;> by_cases h3 : c = 13 <;> by_cases h4 : c = 32 <;> simp [h1, h2, h3, h4]
theorem tGo_ws {c : Nat} {cs : List Nat} {n : Int} (h : isW c = true) : tGo (c :: cs) n = tGo cs (lnN n c) := by rw [tGo.eq_def]; simp [h]
theorem tGo_q {cs : List Nat} {n : Int} : tGo (34 :: cs) n = qGo [] cs n := by rw [tGo.eq_def]; simp [isW]
theorem tGo_e0 {n : Int} : tGo [92] n = ([], [], n) := by rw [tGo.eq_def]; simp [isW]
theorem tGo_e {d : Nat} {ds : List Nat} {n : Int} : tGo (92 :: d :: ds) n = bGo [d] ds (lnN n d) := by rw [tGo.eq_def]; simp [isW]
theorem tGo_b {c : Nat} {cs : List Nat} {n : Int} (h : isW c = false) (h1 : c ≠ 34) (h2 : c ≠ 92) : tGo (c :: cs) n = bGo [c] cs (lnN n c) := by rw [tGo.eq_def]; simp [h, h1, h2]
theorem qGo_q {tok cs : List Nat} {n : Int} : qGo tok (34 :: cs) n = (tok, cs, n) := by rw [qGo.eq_def]; simp
theorem qGo_e0 {tok : List Nat} {n : Int} : qGo tok [92] n = (tok, [], n) := by rw [qGo.eq_def]; simp
theorem qGo_e {tok : List Nat} {d : Nat} {ds : List Nat} {n : Int} : qGo tok (92 :: d :: ds) n = qGo (tok ++ [d]) ds (lnN n d) := by rw [qGo.eq_def]; simp
theorem qGo_b {tok : List Nat} {c : Nat} {cs : List Nat} {n : Int} (h1 : c ≠ 34) (h2 : c ≠ 92) : qGo tok (c :: cs) n = qGo (tok ++ [c]) cs (lnN n c) := by rw [qGo.eq_def]; simp [h1, h2]
theorem bGo_w {tok : List Nat} {c : Nat} {cs : List Nat} {n : Int} (h : isW c = true) : bGo tok (c :: cs) n = (tok, cs, lnN n c) := by rw [bGo.eq_def]; simp [h]
theorem bGo_e0 {tok : List Nat} {n : Int} : bGo tok [92] n = (tok, [], n) := by rw [bGo.eq_def]; simp [isW]
theorem bGo_e {tok : List Nat} {d : Nat} {ds : List Nat} {n : Int} : bGo tok (92 :: d :: ds) n = bGo (tok ++ [d]) ds (lnN n d) := by rw [bGo.eq_def]; simp [isW]
theorem bGo_b {tok : List Nat} {c : Nat} {cs : List Nat} {n : Int} (h : isW c = false) (h2 : c ≠ 92) : bGo tok (c :: cs) n = bGo (tok ++ [c]) cs (lnN n c) := by rw [bGo.eq_def]; simp [h, h2]
theorem sg_is (c d : Nat) {x : Str} (h : x = ⟨#[d]⟩) : ((⟨#[c]⟩ : Str) == x) = decide (c = d) := by
  subst h
  by_cases e : c = d
  · subst e; simp
  · rw [decide_eq_false e]
    refine beq_eq_false_iff_ne.mpr fun h => e ?_
    have := congrArg (fun s : Str => s.cps.toList) h
    simpa using this
theorem q_sign : ("\"" : Str) = ⟨#[34]⟩ := by decide +kernel
theorem b_sign : ("\\" : Str) = ⟨#[92]⟩ := by decide +kernel
end
open PySem.Challenge
set_option hygiene false in
local macro_rules | `(tactic| walk_at "mem") => `(tactic| ((with_reducible (repeat (first | assumption | exact List.mem_cons_self | apply List.mem_cons_of_mem))); done))
set_option hygiene false in
local macro_rules | `(tactic| walk_at "at") => `(tactic| ((with_reducible (repeat (first | exact At.head | apply At.tail))); done))
set_option hygiene false in
local macro_rules | `(tactic| walk_at "put") => `(tactic| ((with_reducible (repeat (first | exact Put.head | apply Put.tail))); done))
set_option hygiene false in
local macro_rules | `(tactic| walk_at "upd") => `(tactic| ((with_reducible (repeat (first | assumption | exact Upd.head | apply Upd.tail))); done))
set_option hygiene false in
local macro_rules | `(tactic| walk_at "pick") => `(tactic| ((with_reducible (repeat (first | exact Pick.head | apply Pick.tail))); done))
set_option hygiene false in
local macro_rules | `(tactic| walk_at "init") => `(tactic| ((with_reducible (repeat (first | exact Init.done | apply Init.arg | apply Init.none))); done))
set_option hygiene false in
local macro_rules | `(tactic| walk_at "sub") => `(tactic| ((with_reducible (repeat (first | exact Sub.refl _ | apply Sub.drop))); done))
set_option hygiene false in
local macro_rules | `(tactic| walk_at "name") => `(tactic| first
  | exact wp_local FE (by walk_at "mem") (by walk_at "at") ?_
  | exact wp_cell FE (by walk_at "mem") (by walk_at "mem") ?_
  | exact wp_glob G FE (by walk_at "mem") (by walk_at "mem") ?_)
set_option hygiene false in
local macro_rules | `(tactic| walk_at "gB") => `(tactic| first
  | refine wp1_Assign_Name ?_
  | refine wp1_Return ?_
  | refine wp1_If ?_
  | refine wp1_Expr ?_ (FEnv.inter FE)
  | refine wp1_Aug_Name ?_
  | refine wp1_Return_none ?_
  | refine wp1_Break ?_
  | refine wp1_Continue ?_)
set_option hygiene false in
local macro_rules | `(tactic| walk_at "gC") => `(tactic| first
  | refine wp_local FE (by walk_at "mem") (by walk_at "at") ?_
  | refine wp_cell FE (by walk_at "mem") (by walk_at "mem") ?_
  | refine wp_glob G FE (by walk_at "mem") (by walk_at "mem") ?_)
set_option hygiene false in
local macro_rules | `(tactic| walk_at "gD") => `(tactic| first
  | refine wp_int ?_
  | refine wp_Call_Name ?_
  | refine wp_Call_Attr ?_
  | refine wp_BinOp ?_
  | refine wp_Slice ?_
  | refine wp_Subscript ?_
  | refine wp_Attribute ?_
  | refine wp_str ?_
  | refine wp_Compare ?_
  | refine wp_UnaryOp ?_
  | refine wp_IfExp ?_
  | refine wp_Tuple ?_
  | refine wp_List ?_
  | refine wp_bool ?_
  | refine wp_none ?_
  | refine wp_bytes ?_)
set_option hygiene false in
local macro_rules | `(tactic| walk_at "gE") => `(tactic| first
  | refine wpb_Compare ?_
  | refine wpb_Not ?_
  | refine wpb_Name ?_
  | refine wpb_Attribute ?_
  | refine wpb_Subscript ?_
  | refine wpb_Call ?_
  | refine wpb_BinOp ?_
  | refine wpb_BoolOp ?_)
set_option hygiene false in
local macro_rules | `(tactic| walk_at "gF") => `(tactic| first
  | refine asg_Name ?_
  | ((show Op1 _ _ _ (storeName _ _) _ _ _); (first
    | refine store_local FE (by walk_at "upd") (by walk_at "put") ?_
    | refine store_cell FE (by walk_at "mem") (by walk_at "upd") ?_))
  | refine tr_bool ?_
  | refine tr_int ?_
  | refine op_neg_int ?_)
set_option hygiene false in
local macro_rules | `(tactic| walk_at "gG") => `(tactic| first
  | refine op_add_int ?_
  | refine op_sub_int ?_
  | refine iop_add_int ?_
  | refine iop_sub_int ?_
  | refine op_lt_int ?_
  | refine op_gt_int ?_
  | refine op_le_int ?_
  | refine op_ge_int ?_
  | refine op_eq_int ?_
  | refine op_ne_int ?_
  | refine op_eq_str ?_
  | refine op_ne_str ?_)
set_option hygiene false in
local macro_rules | `(tactic| walk_at "gH") => `(tactic| first
  | refine wpl_cons ?_
  | refine wpl_nil ?_)
set_option hygiene false in
local macro_rules | `(tactic| walk_at "gI") => `(tactic| first
  | refine wps_next ?_
  | refine wps_ret ?_
  | refine wpg_cons ?_
  | refine wpg_nil ?_
  | refine noneOf ?_
  | refine intOf ?_
  | refine fewOf ?_
  | refine turn_next ?_
  | refine turn_cont ?_
  | refine turn_brk ?_
  | refine turn_ret ?_
  | refine wps_brk ?_
  | refine wps_cont ?_
  | refine wpp_none ?_
  | refine wpp_some ?_
  | refine wp_allAnd_cons ?_
  | refine wp_allAnd_nil ?_
  | refine wp_allOr_cons ?_
  | refine wp_allOr_nil ?_
  | refine wpt_nil ?_
  | refine wpt_one ?_)
set_option hygiene false in
local macro_rules | `(tactic| walk_at "gJ") => `(tactic| first
  | refine load_local FE (by walk_at "mem") (by walk_at "at") ?_
  | refine load_cell FE (by walk_at "mem") (by walk_at "mem") ?_)
set_option hygiene false in
local macro_rules | `(tactic| walk_at "s") => `(tactic| with_reducible first
  | refine wps_cons ?_
  | refine wps_nil ?_
  | ((show WP _ _ _ (exec _ _) _ _); walk_at "gB")
  | ((show WP _ _ _ (eval (Expr.Name _ _) _) _ _); walk_at "gC")
  | ((show WP _ _ _ (eval _ _) _ _); walk_at "gD")
  | ((show WP _ _ _ (loadName _ _) _ _); walk_at "gJ")
  | ((show WP _ _ _ (spliced _) _ _); walk_at "gH")
  | ((show WP _ _ _ (isTrue _ _ _) _ _); walk_at "gE")
  | ((show Op1 _ _ _ _ _ _ _); walk_at "gF")
  | ((show Op2 _ _ _ _ _ _ _ _); walk_at "gG")
  | walk_at "gI")
set_option hygiene false in
local macro_rules | `(tactic| walk_at "cp") => `(tactic| (refine ⟨fun x hx => ?_, fun x hx => ?_, fun x hx => ?_, fun x hx => ?_, fun x hx => ?_, by decide +kernel, by decide +kernel, by decide +kernel⟩ <;> revert x <;> decide +kernel))
noncomputable section
noncomputable abbrev PW : Program := pw_sw0039_03
noncomputable def dfn (qual : Str) (clos : List (Str × Addr)) : Stmt → FnA
  | .FunctionDef _ ps b _ _ _ sc .. => ⟨qual, ps, .stmts b, sc, clos⟩
  | _ => ⟨qual, default, .stmts [], default, clos⟩
noncomputable def cbody : Stmt → List Stmt
  | .ClassDef _ _ _ b .. => b
  | .FunctionDef _ _ b .. => b
  | _ => []
noncomputable def nth (b : List Stmt) (n : Nat) : Stmt := b.getD n (.Pass ⟨0, 0, 0, 0⟩)
/-- a lambda as a statement's value -/
noncomputable def lfn (qual : Str) (clos : List (Str × Addr)) : Stmt → FnA
  | .Assign _ (.Lambda ps b sc _) _ => ⟨qual, ps, .expr b, sc, clos⟩
  | _ => ⟨qual, default, .stmts [], default, clos⟩

noncomputable def F_Int2AP : FnA := dfn "Int2AP" [] (nth PW.main.body 1)
theorem ok_Int2AP : FnOk F_Int2AP ["num"] ["num", "val", "AP", "mod"] ["int", "abs", "divmod"] [] [] :=
  ⟨binds_of rfl rfl (by decide +kernel), fun x hx => (by decide +kernel : ∀ x ∈ (["num", "val", "AP", "mod"] : List Str), (F_Int2AP).scope.names.lookup x = some .local ∧ dbg x) x hx, fun x hx => (by decide +kernel : ∀ x ∈ (["int", "abs", "divmod"] : List Str), (F_Int2AP).scope.names.lookup x = some .globalImplicit ∧ dbg x) x hx, fun x hx => (by decide +kernel : ∀ x ∈ ([] : List Str), (F_Int2AP).scope.names.lookup x = some .cell ∧ dbg x) x hx, fun x hx => (by decide +kernel : ∀ x ∈ ([] : List Str), (F_Int2AP).scope.names.lookup x = some .free ∧ dbg x) x hx, by decide +kernel, by decide +kernel, by decide +kernel, by decide +kernel, fun x hx => (by decide +kernel : ∀ x ∈ (F_Int2AP).scope.names, x.2 = .cell → x.1 ∈ ([] : List Str)) x hx, by decide +kernel, fun L => rfl, rfl, rfl, rfl⟩
noncomputable def F_div2n1n : FnA := dfn "_div2n1n" [] (nth PW.main.body 4)
theorem ok_div2n1n : FnOk F_div2n1n ["a", "b", "n"] ["a", "b", "n", "pad", "half_n", "mask", "b1", "b2", "q1", "r", "q2"] ["_DIV_LIMIT", "divmod"] [] [] :=
  ⟨binds_of rfl rfl (by decide +kernel), fun x hx => (by decide +kernel : ∀ x ∈ (["a", "b", "n", "pad", "half_n", "mask", "b1", "b2", "q1", "r", "q2"] : List Str), (F_div2n1n).scope.names.lookup x = some .local ∧ dbg x) x hx, fun x hx => (by decide +kernel : ∀ x ∈ (["_DIV_LIMIT", "divmod"] : List Str), (F_div2n1n).scope.names.lookup x = some .globalImplicit ∧ dbg x) x hx, fun x hx => (by decide +kernel : ∀ x ∈ ([] : List Str), (F_div2n1n).scope.names.lookup x = some .cell ∧ dbg x) x hx, fun x hx => (by decide +kernel : ∀ x ∈ ([] : List Str), (F_div2n1n).scope.names.lookup x = some .free ∧ dbg x) x hx, by decide +kernel, by decide +kernel, by decide +kernel, by decide +kernel, fun x hx => (by decide +kernel : ∀ x ∈ (F_div2n1n).scope.names, x.2 = .cell → x.1 ∈ ([] : List Str)) x hx, by decide +kernel, fun L => rfl, rfl, rfl, rfl⟩
noncomputable def F_int2digits : FnA := dfn "_int2digits" [] (nth PW.main.body 6)
theorem ok_int2digits : FnOk F_int2digits ["a", "n"] ["a"] ["len"] ["inner", "a_digits", "n"] [] :=
  ⟨binds_of rfl rfl (by decide +kernel), fun x hx => (by decide +kernel : ∀ x ∈ (["a"] : List Str), (F_int2digits).scope.names.lookup x = some .local ∧ dbg x) x hx, fun x hx => (by decide +kernel : ∀ x ∈ (["len"] : List Str), (F_int2digits).scope.names.lookup x = some .globalImplicit ∧ dbg x) x hx, fun x hx => (by decide +kernel : ∀ x ∈ (["inner", "a_digits", "n"] : List Str), (F_int2digits).scope.names.lookup x = some .cell ∧ dbg x) x hx, fun x hx => (by decide +kernel : ∀ x ∈ ([] : List Str), (F_int2digits).scope.names.lookup x = some .free ∧ dbg x) x hx, by decide +kernel, by decide +kernel, by decide +kernel, by decide +kernel, fun x hx => (by decide +kernel : ∀ x ∈ (F_int2digits).scope.names, x.2 = .cell → x.1 ∈ (["inner", "a_digits", "n"] : List Str)) x hx, by decide +kernel, fun L => rfl, rfl, rfl, rfl⟩
noncomputable def F_i2dInner (clos : List (Str × Addr)) : FnA := dfn "_int2digits.<locals>.inner" clos (nth (cbody (nth PW.main.body 6)) 1)
theorem ok_i2dInner (clos : List (Str × Addr)) : FnOk (F_i2dInner clos) ["x", "L", "R"] ["x", "L", "R", "mid", "shift", "upper", "lower"] [] [] ["n", "inner", "a_digits"] :=
  ⟨binds_of rfl rfl (by decide +kernel), fun x hx => (by decide +kernel : ∀ x ∈ (["x", "L", "R", "mid", "shift", "upper", "lower"] : List Str), (F_i2dInner []).scope.names.lookup x = some .local ∧ dbg x) x hx, fun x hx => (by decide +kernel : ∀ x ∈ ([] : List Str), (F_i2dInner []).scope.names.lookup x = some .globalImplicit ∧ dbg x) x hx, fun x hx => (by decide +kernel : ∀ x ∈ ([] : List Str), (F_i2dInner []).scope.names.lookup x = some .cell ∧ dbg x) x hx, fun x hx => (by decide +kernel : ∀ x ∈ (["n", "inner", "a_digits"] : List Str), (F_i2dInner []).scope.names.lookup x = some .free ∧ dbg x) x hx, by decide +kernel, by decide +kernel, by decide +kernel, by decide +kernel, fun x hx => (by decide +kernel : ∀ x ∈ (F_i2dInner []).scope.names, x.2 = .cell → x.1 ∈ ([] : List Str)) x hx, by decide +kernel, fun L => rfl, rfl, rfl, rfl⟩
noncomputable def F_digits2int : FnA := dfn "_digits2int" [] (nth PW.main.body 7)
theorem ok_digits2int : FnOk F_digits2int ["digits", "n"] [] ["len"] ["inner", "n", "digits"] [] :=
  ⟨binds_of rfl rfl (by decide +kernel), fun x hx => (by decide +kernel : ∀ x ∈ ([] : List Str), (F_digits2int).scope.names.lookup x = some .local ∧ dbg x) x hx, fun x hx => (by decide +kernel : ∀ x ∈ (["len"] : List Str), (F_digits2int).scope.names.lookup x = some .globalImplicit ∧ dbg x) x hx, fun x hx => (by decide +kernel : ∀ x ∈ (["inner", "n", "digits"] : List Str), (F_digits2int).scope.names.lookup x = some .cell ∧ dbg x) x hx, fun x hx => (by decide +kernel : ∀ x ∈ ([] : List Str), (F_digits2int).scope.names.lookup x = some .free ∧ dbg x) x hx, by decide +kernel, by decide +kernel, by decide +kernel, by decide +kernel, fun x hx => (by decide +kernel : ∀ x ∈ (F_digits2int).scope.names, x.2 = .cell → x.1 ∈ (["inner", "n", "digits"] : List Str)) x hx, by decide +kernel, fun L => rfl, rfl, rfl, rfl⟩
noncomputable def F_d2iInner (clos : List (Str × Addr)) : FnA := dfn "_digits2int.<locals>.inner" clos (nth (cbody (nth PW.main.body 7)) 0)
theorem ok_d2iInner (clos : List (Str × Addr)) : FnOk (F_d2iInner clos) ["L", "R"] ["L", "R", "mid", "shift"] [] [] ["n", "inner", "digits"] :=
  ⟨binds_of rfl rfl (by decide +kernel), fun x hx => (by decide +kernel : ∀ x ∈ (["L", "R", "mid", "shift"] : List Str), (F_d2iInner []).scope.names.lookup x = some .local ∧ dbg x) x hx, fun x hx => (by decide +kernel : ∀ x ∈ ([] : List Str), (F_d2iInner []).scope.names.lookup x = some .globalImplicit ∧ dbg x) x hx, fun x hx => (by decide +kernel : ∀ x ∈ ([] : List Str), (F_d2iInner []).scope.names.lookup x = some .cell ∧ dbg x) x hx, fun x hx => (by decide +kernel : ∀ x ∈ (["n", "inner", "digits"] : List Str), (F_d2iInner []).scope.names.lookup x = some .free ∧ dbg x) x hx, by decide +kernel, by decide +kernel, by decide +kernel, by decide +kernel, fun x hx => (by decide +kernel : ∀ x ∈ (F_d2iInner []).scope.names, x.2 = .cell → x.1 ∈ ([] : List Str)) x hx, by decide +kernel, fun L => rfl, rfl, rfl, rfl⟩
noncomputable def F_divmod_pos : FnA := dfn "_divmod_pos" [] (nth PW.main.body 8)
theorem ok_divmod_pos : FnOk F_divmod_pos ["a", "b"] ["a", "b", "n", "a_digits", "r", "q_digits", "a_digit", "q_digit", "q"] ["_int2digits", "reversed", "_div2n1n", "_digits2int"] [] [] :=
  ⟨binds_of rfl rfl (by decide +kernel), fun x hx => (by decide +kernel : ∀ x ∈ (["a", "b", "n", "a_digits", "r", "q_digits", "a_digit", "q_digit", "q"] : List Str), (F_divmod_pos).scope.names.lookup x = some .local ∧ dbg x) x hx, fun x hx => (by decide +kernel : ∀ x ∈ (["_int2digits", "reversed", "_div2n1n", "_digits2int"] : List Str), (F_divmod_pos).scope.names.lookup x = some .globalImplicit ∧ dbg x) x hx, fun x hx => (by decide +kernel : ∀ x ∈ ([] : List Str), (F_divmod_pos).scope.names.lookup x = some .cell ∧ dbg x) x hx, fun x hx => (by decide +kernel : ∀ x ∈ ([] : List Str), (F_divmod_pos).scope.names.lookup x = some .free ∧ dbg x) x hx, by decide +kernel, by decide +kernel, by decide +kernel, by decide +kernel, fun x hx => (by decide +kernel : ∀ x ∈ (F_divmod_pos).scope.names, x.2 = .cell → x.1 ∈ ([] : List Str)) x hx, by decide +kernel, fun L => rfl, rfl, rfl, rfl⟩
noncomputable def F_int_divmod : FnA := dfn "int_divmod" [] (nth PW.main.body 9)
theorem ok_int_divmod : FnOk F_int_divmod ["a", "b"] ["a", "b", "q", "r"] ["int_divmod", "_divmod_pos"] [] [] :=
  ⟨binds_of rfl rfl (by decide +kernel), fun x hx => (by decide +kernel : ∀ x ∈ (["a", "b", "q", "r"] : List Str), (F_int_divmod).scope.names.lookup x = some .local ∧ dbg x) x hx, fun x hx => (by decide +kernel : ∀ x ∈ (["int_divmod", "_divmod_pos"] : List Str), (F_int_divmod).scope.names.lookup x = some .globalImplicit ∧ dbg x) x hx, fun x hx => (by decide +kernel : ∀ x ∈ ([] : List Str), (F_int_divmod).scope.names.lookup x = some .cell ∧ dbg x) x hx, fun x hx => (by decide +kernel : ∀ x ∈ ([] : List Str), (F_int_divmod).scope.names.lookup x = some .free ∧ dbg x) x hx, by decide +kernel, by decide +kernel, by decide +kernel, by decide +kernel, fun x hx => (by decide +kernel : ∀ x ∈ (F_int_divmod).scope.names, x.2 = .cell → x.1 ∈ ([] : List Str)) x hx, by decide +kernel, fun L => rfl, rfl, rfl, rfl⟩
noncomputable def F_init : FnA := dfn "_netrclex.__init__" [] (nth (cbody (nth PW.main.body 11)) 0)
theorem ok_init : FnOk F_init ["self", "fp"] ["self", "fp"] [] [] [] :=
  ⟨binds_of rfl rfl (by decide +kernel), fun x hx => (by decide +kernel : ∀ x ∈ (["self", "fp"] : List Str), (F_init).scope.names.lookup x = some .local ∧ dbg x) x hx, fun x hx => (by decide +kernel : ∀ x ∈ ([] : List Str), (F_init).scope.names.lookup x = some .globalImplicit ∧ dbg x) x hx, fun x hx => (by decide +kernel : ∀ x ∈ ([] : List Str), (F_init).scope.names.lookup x = some .cell ∧ dbg x) x hx, fun x hx => (by decide +kernel : ∀ x ∈ ([] : List Str), (F_init).scope.names.lookup x = some .free ∧ dbg x) x hx, by decide +kernel, by decide +kernel, by decide +kernel, by decide +kernel, fun x hx => (by decide +kernel : ∀ x ∈ (F_init).scope.names, x.2 = .cell → x.1 ∈ ([] : List Str)) x hx, by decide +kernel, fun L => rfl, rfl, rfl, rfl⟩
noncomputable def F_read : FnA := dfn "_netrclex._read_char" [] (nth (cbody (nth PW.main.body 11)) 1)
theorem ok_read : FnOk F_read ["self"] ["self", "ch"] [] [] [] :=
  ⟨binds_of rfl rfl (by decide +kernel), fun x hx => (by decide +kernel : ∀ x ∈ (["self", "ch"] : List Str), (F_read).scope.names.lookup x = some .local ∧ dbg x) x hx, fun x hx => (by decide +kernel : ∀ x ∈ ([] : List Str), (F_read).scope.names.lookup x = some .globalImplicit ∧ dbg x) x hx, fun x hx => (by decide +kernel : ∀ x ∈ ([] : List Str), (F_read).scope.names.lookup x = some .cell ∧ dbg x) x hx, fun x hx => (by decide +kernel : ∀ x ∈ ([] : List Str), (F_read).scope.names.lookup x = some .free ∧ dbg x) x hx, by decide +kernel, by decide +kernel, by decide +kernel, by decide +kernel, fun x hx => (by decide +kernel : ∀ x ∈ (F_read).scope.names, x.2 = .cell → x.1 ∈ ([] : List Str)) x hx, by decide +kernel, fun L => rfl, rfl, rfl, rfl⟩
noncomputable def F_get : FnA := dfn "_netrclex.get_token" [] (nth (cbody (nth PW.main.body 11)) 2)
theorem ok_get : FnOk F_get ["self"] ["self", "token", "fiter", "ch"] ["iter"] [] [] :=
  ⟨binds_of rfl rfl (by decide +kernel), fun x hx => (by decide +kernel : ∀ x ∈ (["self", "token", "fiter", "ch"] : List Str), (F_get).scope.names.lookup x = some .local ∧ dbg x) x hx, fun x hx => (by decide +kernel : ∀ x ∈ (["iter"] : List Str), (F_get).scope.names.lookup x = some .globalImplicit ∧ dbg x) x hx, fun x hx => (by decide +kernel : ∀ x ∈ ([] : List Str), (F_get).scope.names.lookup x = some .cell ∧ dbg x) x hx, fun x hx => (by decide +kernel : ∀ x ∈ ([] : List Str), (F_get).scope.names.lookup x = some .free ∧ dbg x) x hx, by decide +kernel, by decide +kernel, by decide +kernel, by decide +kernel, fun x hx => (by decide +kernel : ∀ x ∈ (F_get).scope.names, x.2 = .cell → x.1 ∈ ([] : List Str)) x hx, by decide +kernel, fun L => rfl, rfl, rfl, rfl⟩
noncomputable def F_push : FnA := dfn "_netrclex.push_token" [] (nth (cbody (nth PW.main.body 11)) 3)
theorem ok_push : FnOk F_push ["self", "token"] ["self", "token"] [] [] [] :=
  ⟨binds_of rfl rfl (by decide +kernel), fun x hx => (by decide +kernel : ∀ x ∈ (["self", "token"] : List Str), (F_push).scope.names.lookup x = some .local ∧ dbg x) x hx, fun x hx => (by decide +kernel : ∀ x ∈ ([] : List Str), (F_push).scope.names.lookup x = some .globalImplicit ∧ dbg x) x hx, fun x hx => (by decide +kernel : ∀ x ∈ ([] : List Str), (F_push).scope.names.lookup x = some .cell ∧ dbg x) x hx, fun x hx => (by decide +kernel : ∀ x ∈ ([] : List Str), (F_push).scope.names.lookup x = some .free ∧ dbg x) x hx, by decide +kernel, by decide +kernel, by decide +kernel, by decide +kernel, fun x hx => (by decide +kernel : ∀ x ∈ (F_push).scope.names, x.2 = .cell → x.1 ∈ ([] : List Str)) x hx, by decide +kernel, fun L => rfl, rfl, rfl, rfl⟩
noncomputable def F_reader : FnA := dfn "_law_reader" [] (nth PW.main.body 13)
theorem ok_reader : FnOk F_reader ["left"] ["fp"] ["_netrclex"] ["left"] [] :=
  ⟨binds_of rfl rfl (by decide +kernel), fun x hx => (by decide +kernel : ∀ x ∈ (["fp"] : List Str), (F_reader).scope.names.lookup x = some .local ∧ dbg x) x hx, fun x hx => (by decide +kernel : ∀ x ∈ (["_netrclex"] : List Str), (F_reader).scope.names.lookup x = some .globalImplicit ∧ dbg x) x hx, fun x hx => (by decide +kernel : ∀ x ∈ (["left"] : List Str), (F_reader).scope.names.lookup x = some .cell ∧ dbg x) x hx, fun x hx => (by decide +kernel : ∀ x ∈ ([] : List Str), (F_reader).scope.names.lookup x = some .free ∧ dbg x) x hx, by decide +kernel, by decide +kernel, by decide +kernel, by decide +kernel, fun x hx => (by decide +kernel : ∀ x ∈ (F_reader).scope.names, x.2 = .cell → x.1 ∈ (["left"] : List Str)) x hx, by decide +kernel, fun L => rfl, rfl, rfl, rfl⟩
noncomputable def F_lam (clos : List (Str × Addr)) : FnA := lfn "_law_reader.<locals>.<lambda>" clos (nth (cbody (nth PW.main.body 13)) 1)
theorem ok_lam (clos : List (Str × Addr)) : FnOk (F_lam clos) ["count"] ["count"] [] [] ["left"] :=
  ⟨binds_of rfl rfl (by decide +kernel), fun x hx => (by decide +kernel : ∀ x ∈ (["count"] : List Str), (F_lam []).scope.names.lookup x = some .local ∧ dbg x) x hx, fun x hx => (by decide +kernel : ∀ x ∈ ([] : List Str), (F_lam []).scope.names.lookup x = some .globalImplicit ∧ dbg x) x hx, fun x hx => (by decide +kernel : ∀ x ∈ ([] : List Str), (F_lam []).scope.names.lookup x = some .cell ∧ dbg x) x hx, fun x hx => (by decide +kernel : ∀ x ∈ (["left"] : List Str), (F_lam []).scope.names.lookup x = some .free ∧ dbg x) x hx, by decide +kernel, by decide +kernel, by decide +kernel, by decide +kernel, fun x hx => (by decide +kernel : ∀ x ∈ (F_lam []).scope.names, x.2 = .cell → x.1 ∈ ([] : List Str)) x hx, by decide +kernel, fun L => rfl, rfl, rfl, rfl⟩
noncomputable def F_line : FnA := dfn "_law_line" [] (nth PW.main.body 14)
theorem ok_line : FnOk F_line ["words"] ["words", "line", "word"] ["_law_reader"] [] [] :=
  ⟨binds_of rfl rfl (by decide +kernel), fun x hx => (by decide +kernel : ∀ x ∈ (["words", "line", "word"] : List Str), (F_line).scope.names.lookup x = some .local ∧ dbg x) x hx, fun x hx => (by decide +kernel : ∀ x ∈ (["_law_reader"] : List Str), (F_line).scope.names.lookup x = some .globalImplicit ∧ dbg x) x hx, fun x hx => (by decide +kernel : ∀ x ∈ ([] : List Str), (F_line).scope.names.lookup x = some .cell ∧ dbg x) x hx, fun x hx => (by decide +kernel : ∀ x ∈ ([] : List Str), (F_line).scope.names.lookup x = some .free ∧ dbg x) x hx, by decide +kernel, by decide +kernel, by decide +kernel, by decide +kernel, fun x hx => (by decide +kernel : ∀ x ∈ (F_line).scope.names, x.2 = .cell → x.1 ∈ ([] : List Str)) x hx, by decide +kernel, fun L => rfl, rfl, rfl, rfl⟩
noncomputable def F_word : FnA := dfn "_law_word" [] (nth PW.main.body 15)
theorem ok_word : FnOk F_word ["number"] ["number"] ["Int2AP"] [] [] :=
  ⟨binds_of rfl rfl (by decide +kernel), fun x hx => (by decide +kernel : ∀ x ∈ (["number"] : List Str), (F_word).scope.names.lookup x = some .local ∧ dbg x) x hx, fun x hx => (by decide +kernel : ∀ x ∈ (["Int2AP"] : List Str), (F_word).scope.names.lookup x = some .globalImplicit ∧ dbg x) x hx, fun x hx => (by decide +kernel : ∀ x ∈ ([] : List Str), (F_word).scope.names.lookup x = some .cell ∧ dbg x) x hx, fun x hx => (by decide +kernel : ∀ x ∈ ([] : List Str), (F_word).scope.names.lookup x = some .free ∧ dbg x) x hx, by decide +kernel, by decide +kernel, by decide +kernel, by decide +kernel, fun x hx => (by decide +kernel : ∀ x ∈ (F_word).scope.names, x.2 = .cell → x.1 ∈ ([] : List Str)) x hx, by decide +kernel, fun L => rfl, rfl, rfl, rfl⟩
noncomputable def F_text : FnA := dfn "_law_text" [] (nth PW.main.body 16)
theorem ok_text : FnOk F_text ["words", "cells"] ["words", "cells", "text", "word", "cell", "more", "body"] ["zip", "enumerate"] ["style"] [] :=
  ⟨binds_of rfl rfl (by decide +kernel), fun x hx => (by decide +kernel : ∀ x ∈ (["words", "cells", "text", "word", "cell", "more", "body"] : List Str), (F_text).scope.names.lookup x = some .local ∧ dbg x) x hx, fun x hx => (by decide +kernel : ∀ x ∈ (["zip", "enumerate"] : List Str), (F_text).scope.names.lookup x = some .globalImplicit ∧ dbg x) x hx, fun x hx => (by decide +kernel : ∀ x ∈ (["style"] : List Str), (F_text).scope.names.lookup x = some .cell ∧ dbg x) x hx, fun x hx => (by decide +kernel : ∀ x ∈ ([] : List Str), (F_text).scope.names.lookup x = some .free ∧ dbg x) x hx, by decide +kernel, by decide +kernel, by decide +kernel, by decide +kernel, fun x hx => (by decide +kernel : ∀ x ∈ (F_text).scope.names, x.2 = .cell → x.1 ∈ (["style"] : List Str)) x hx, by decide +kernel, fun L => rfl, rfl, rfl, rfl⟩
noncomputable def F_taken : FnA := dfn "_law_taken" [] (nth PW.main.body 17)
theorem ok_taken : FnOk F_taken ["state", "low", "line"] ["state", "low", "line", "turn"] ["range", "ord"] [] [] :=
  ⟨binds_of rfl rfl (by decide +kernel), fun x hx => (by decide +kernel : ∀ x ∈ (["state", "low", "line", "turn"] : List Str), (F_taken).scope.names.lookup x = some .local ∧ dbg x) x hx, fun x hx => (by decide +kernel : ∀ x ∈ (["range", "ord"] : List Str), (F_taken).scope.names.lookup x = some .globalImplicit ∧ dbg x) x hx, fun x hx => (by decide +kernel : ∀ x ∈ ([] : List Str), (F_taken).scope.names.lookup x = some .cell ∧ dbg x) x hx, fun x hx => (by decide +kernel : ∀ x ∈ ([] : List Str), (F_taken).scope.names.lookup x = some .free ∧ dbg x) x hx, by decide +kernel, by decide +kernel, by decide +kernel, by decide +kernel, fun x hx => (by decide +kernel : ∀ x ∈ (F_taken).scope.names, x.2 = .cell → x.1 ∈ ([] : List Str)) x hx, by decide +kernel, fun L => rfl, rfl, rfl, rfl⟩
noncomputable def F_out : FnA := dfn "_law_out" [] (nth PW.main.body 18)
theorem ok_out : FnOk F_out ["low", "line", "table", "most"] ["low", "line", "table", "most", "state", "said", "turn", "high", "place"] ["_law_line", "range", "_law_taken", "int_divmod", "len"] [] [] :=
  ⟨binds_of rfl rfl (by decide +kernel), fun x hx => (by decide +kernel : ∀ x ∈ (["low", "line", "table", "most", "state", "said", "turn", "high", "place"] : List Str), (F_out).scope.names.lookup x = some .local ∧ dbg x) x hx, fun x hx => (by decide +kernel : ∀ x ∈ (["_law_line", "range", "_law_taken", "int_divmod", "len"] : List Str), (F_out).scope.names.lookup x = some .globalImplicit ∧ dbg x) x hx, fun x hx => (by decide +kernel : ∀ x ∈ ([] : List Str), (F_out).scope.names.lookup x = some .cell ∧ dbg x) x hx, fun x hx => (by decide +kernel : ∀ x ∈ ([] : List Str), (F_out).scope.names.lookup x = some .free ∧ dbg x) x hx, by decide +kernel, by decide +kernel, by decide +kernel, by decide +kernel, fun x hx => (by decide +kernel : ∀ x ∈ (F_out).scope.names, x.2 = .cell → x.1 ∈ ([] : List Str)) x hx, by decide +kernel, fun L => rfl, rfl, rfl, rfl⟩
noncomputable def F_lin : FnA := dfn "_law_in" [] (nth PW.main.body 19)
theorem ok_lin : FnOk F_lin ["state", "scale", "table", "said"] ["state", "scale", "table", "said", "letters", "size", "turn", "letter", "high", "rank"] ["range", "len", "int_divmod", "enumerate", "_digits2int"] ["word"] [] :=
  ⟨binds_of rfl rfl (by decide +kernel), fun x hx => (by decide +kernel : ∀ x ∈ (["state", "scale", "table", "said", "letters", "size", "turn", "letter", "high", "rank"] : List Str), (F_lin).scope.names.lookup x = some .local ∧ dbg x) x hx, fun x hx => (by decide +kernel : ∀ x ∈ (["range", "len", "int_divmod", "enumerate", "_digits2int"] : List Str), (F_lin).scope.names.lookup x = some .globalImplicit ∧ dbg x) x hx, fun x hx => (by decide +kernel : ∀ x ∈ (["word"] : List Str), (F_lin).scope.names.lookup x = some .cell ∧ dbg x) x hx, fun x hx => (by decide +kernel : ∀ x ∈ ([] : List Str), (F_lin).scope.names.lookup x = some .free ∧ dbg x) x hx, by decide +kernel, by decide +kernel, by decide +kernel, by decide +kernel, fun x hx => (by decide +kernel : ∀ x ∈ (F_lin).scope.names, x.2 = .cell → x.1 ∈ (["word"] : List Str)) x hx, by decide +kernel, fun L => rfl, rfl, rfl, rfl⟩
noncomputable def F_counted : FnA := dfn "_law_counted" [] (nth PW.main.body 20)
theorem ok_counted : FnOk F_counted ["figures", "low", "table", "most"] ["figures", "low", "most", "state", "used", "turn", "figure"] ["range", "len"] ["told", "table"] [] :=
  ⟨binds_of rfl rfl (by decide +kernel), fun x hx => (by decide +kernel : ∀ x ∈ (["figures", "low", "most", "state", "used", "turn", "figure"] : List Str), (F_counted).scope.names.lookup x = some .local ∧ dbg x) x hx, fun x hx => (by decide +kernel : ∀ x ∈ (["range", "len"] : List Str), (F_counted).scope.names.lookup x = some .globalImplicit ∧ dbg x) x hx, fun x hx => (by decide +kernel : ∀ x ∈ (["told", "table"] : List Str), (F_counted).scope.names.lookup x = some .cell ∧ dbg x) x hx, fun x hx => (by decide +kernel : ∀ x ∈ ([] : List Str), (F_counted).scope.names.lookup x = some .free ∧ dbg x) x hx, by decide +kernel, by decide +kernel, by decide +kernel, by decide +kernel, fun x hx => (by decide +kernel : ∀ x ∈ (F_counted).scope.names, x.2 = .cell → x.1 ∈ (["told", "table"] : List Str)) x hx, by decide +kernel, fun L => rfl, rfl, rfl, rfl⟩
end
noncomputable section
/-- where the module's own functions lie -/
structure Ad where
  (ap div2 i2d d2i dmp idm cls fInit fRead fGet fPush reader line word text taken out lin counted : Addr)
  (pI2d pD2i pReader : Addr)
noncomputable abbrev GL3 (a : Ad) : List (Str × V) := [("int", .ty "int"), ("abs", .bi "abs"), ("divmod", .bi "divmod"), ("len", .bi "len"), ("reversed", .ty "reversed"), ("range", .ty "range"), ("zip", .ty "zip"), ("enumerate", .ty "enumerate"),
  ("list", .ty "list"), ("chr", .bi "chr"), ("ord", .bi "ord"), ("iter", .bi "iter"), ("_DIV_LIMIT", .int 4000), ("Int2AP", .ref a.ap), ("_div2n1n", .ref a.div2), ("_int2digits", .ref a.i2d), ("_digits2int", .ref a.d2i),
  ("_divmod_pos", .ref a.dmp), ("int_divmod", .ref a.idm), ("_netrclex", .ref a.cls), ("_law_reader", .ref a.reader), ("_law_line", .ref a.line), ("_law_word", .ref a.word), ("_law_text", .ref a.text), ("_law_taken", .ref a.taken),
  ("_law_out", .ref a.out), ("_law_in", .ref a.lin), ("_law_counted", .ref a.counted)]
/-- the class's record -/
structure Cls3 (K : Frag) (a : Ad) : Prop where
  ok : ClsOk K a.cls
  init : findIn K (.ref a.cls) "__init__" = some (some (.ref a.fInit))
  initT : typeIn K (.ref a.fInit) = some (.type "function")
  read : findIn K (.ref a.cls) "_read_char" = some (some (.ref a.fRead))
  readT : isFn K (.ref a.fRead) = true
  readG : specialIn K (.ref a.fRead) "__get__" = some (some (.builtin "function.__get__"))
  readS : takesIn K (.ref a.fRead) = some false
  get : findIn K (.ref a.cls) "get_token" = some (some (.ref a.fGet))
  getT : isFn K (.ref a.fGet) = true
  push : findIn K (.ref a.cls) "push_token" = some (some (.ref a.fPush))
  pushT : isFn K (.ref a.fPush) = true
  at1 : findIn K (.ref a.cls) "lineno" = some none ∧ takerIn K a.cls "lineno" = some none
  at2 : findIn K (.ref a.cls) "instream" = some none ∧ takerIn K a.cls "instream" = some none
  at3 : findIn K (.ref a.cls) "whitespace" = some none ∧ takerIn K a.cls "whitespace" = some none
  at4 : findIn K (.ref a.cls) "pushback" = some none ∧ takerIn K a.cls "pushback" = some none
structure W3 (C : Cfg) (a : Ad) : Prop where
  G : C.Ok (GL3 a)
  cls : Cls3 C.K a
  ap : ∃ cd, FnAt C.B a.ap F_Int2AP cd
  div2 : ∃ cd, FnAt C.B a.div2 F_div2n1n cd
  i2d : ∃ c, FnAt C.B a.i2d F_int2digits (.ref c) ∧ CodeHd C.B c a.pI2d
  d2i : ∃ c, FnAt C.B a.d2i F_digits2int (.ref c) ∧ CodeHd C.B c a.pD2i
  dmp : ∃ cd, FnAt C.B a.dmp F_divmod_pos cd
  idm : ∃ cd, FnAt C.B a.idm F_int_divmod cd
  fInit : ∃ cd, FnAt C.B a.fInit F_init cd
  fRead : ∃ cd, FnAt C.B a.fRead F_read cd
  fGet : ∃ cd, FnAt C.B a.fGet F_get cd
  fPush : ∃ cd, FnAt C.B a.fPush F_push cd
  reader : ∃ c, FnAt C.B a.reader F_reader (.ref c) ∧ CodeHd C.B c a.pReader
  line : ∃ cd, FnAt C.B a.line F_line cd
  word : ∃ cd, FnAt C.B a.word F_word cd
  text : ∃ cd, FnAt C.B a.text F_text cd
  taken : ∃ cd, FnAt C.B a.taken F_taken cd
  out : ∃ cd, FnAt C.B a.out F_out cd
  lin : ∃ cd, FnAt C.B a.lin F_lin cd
  counted : ∃ cd, FnAt C.B a.counted F_counted cd

/-- the letters of a number, the highest first -/
noncomputable def apL (n : Nat) : List UInt8 := if h : n = 0 then [] else apL (n / 16) ++ [UInt8.ofNat (65 + n % 16)]
decreasing_by lia
theorem apL_zero : apL 0 = [] := by rw [apL]; rfl
theorem apL_pos {n : Nat} (h : n ≠ 0) : apL n = apL (n / 16) ++ [UInt8.ofNat (65 + n % 16)] := by rw [apL, dif_neg h]
theorem ap_pick : ∀ m : Fin 16, KBy.picked [65, 66, 67, 68, 69, 70, 71, 72, 73, 74, 75, 76, 77, 78, 79, 80].toArray (some (m.val : Int)) (some ((m.val : Int) + 1)) = #[UInt8.ofNat (65 + m.val)] := by decide +kernel

section
variable {C : Cfg} {a : Ad} {A : Around} {H : AH} {Q : V → AH → Prop}
inductive ApO (n : Int) (L : Addr) (H : AH) (i : Nat) (H₁ : AH) : Prop
  | mk (k : Nat) (b : Array UInt8) (md : Option V) (h1 : k < 16 ^ (1000 - i)) (h2 : apL n.natAbs = apL k ++ b.toList) (h3 : b.size ≤ i) (h4 : H₁ = (L, AO.ns ["num", "val", "AP", "mod"] [some (.int (k : Nat)), some (.bytes b), some (.bytes [65, 66, 67, 68, 69, 70, 71, 72, 73, 74, 75, 76, 77, 78, 79, 80].toArray), md]) :: H) : ApO n L H i H₁
theorem sp_Int2AP {n : Int} (W : W3 C a) (hr : Room A 1) (hn : n.natAbs < 16 ^ 1000) (q : Q (.bytes (apL n.natAbs).toArray) H) :
    WPC C A (.ref a.ap) [.int n] Q H := by
  have G := W.G
  obtain ⟨cd, hF⟩ := W.ap
  refine call_ok ok_Int2AP G (fnAt_of_base hF) hr rfl rfl (by walk_at "init") rfl rfl fun L cd A' env hr' hD FE he => ?_
  have hA := hr'.hd
  repeat walk_at "s"
  refine c_abs ?_
  repeat walk_at "s"
  refine c_int ?_
  repeat walk_at "s"
  refine wp1_While (ApO n L H) 1000
    ⟨n.natAbs, #[], none, hn, by simp, Nat.le_refl _, rfl⟩ ?_
  rintro i H₁ hi ⟨k, b, md, hk, hb, hz, rfl⟩
  repeat walk_at "s"
  refine ⟨fun hne => ?_, fun he => ?_⟩
  · have hk0 : k ≠ 0 := by simpa using hne
    have hi' : i < 1000 := Nat.lt_of_not_le fun h => by
      have : 1000 - i = 0 := by lia
      rw [this] at hk; lia
    refine ⟨hi', ?_⟩
    repeat walk_at "s"
    refine wp1_Assign ?_
    repeat walk_at "s"
    refine c_divmod (by decide) (PyProof.noPylong_small (by decide)) ?_
    refine asg_Tuple hA (wpas_cons ?_)
    repeat walk_at "s"
    refine wpas_cons ?_
    repeat walk_at "s"
    refine wpas_nil ?_
    repeat walk_at "s"
    refine gs_bytes (by decide) ?_
    repeat walk_at "s"
    have e1 : (k : Int).fdiv 16 = ((k / 16 : Nat) : Int) := fdiv_nat k 16
    have e2 : (k : Int).fmod 16 = ((k % 16 : Nat) : Int) := fmod_nat k 16
    have e3 := ap_pick ⟨k % 16, Nat.mod_lt _ (by decide)⟩
    simp only [] at e3
    rw [e1, e2, e3]
    refine op_add_bytes (by simp; lia) ?_
    repeat walk_at "s"
    refine ⟨k / 16, _, some (.int ((k % 16 : Nat) : Int)), ?_, ?_, ?_, rfl⟩
    · have : 1000 - i = (1000 - (i + 1)) + 1 := by lia
      rw [this, Nat.pow_succ] at hk
      lia
    · rw [hb, apL_pos hk0]; simp
    · simp; lia
  · have hk0 : k = 0 := by simpa using he
    subst hk0
    repeat walk_at "s"
    refine ⟨H, .drop (.refl _), ?_⟩
    rw [apL_zero] at hb
    simp at hb
    rw [hb] at q
    exact q

theorem sp_div2 {x y n : Int} (W : W3 C a) (hr : Room A 1) (hb : y ≠ 0) (hx : (Builtin.Int.intBits x : Int) - n ≤ 4000) (hp : Builtin.divisionGoesByPylong x y = false) (q : Q (.tup [.int (x.fdiv y), .int (x.fmod y)]) H) :
    WPC C A (.ref a.div2) [.int x, .int y, .int n] Q H := by
  have G := W.G
  obtain ⟨cd, hF⟩ := W.div2
  refine call_ok ok_div2n1n G (fnAt_of_base hF) hr rfl rfl (by walk_at "init") rfl rfl fun L cd A' env hr' hD FE he => ?_
  repeat walk_at "s"
  refine wpm_bitlen ?_
  repeat walk_at "s"
  refine c_bitlen ?_
  repeat walk_at "s"
  refine ⟨fun _ => ?_, fun h => absurd hx (by simpa using h)⟩
  repeat walk_at "s"
  refine c_divmod hb hp ?_
  exact ⟨H, .drop (.refl _), q⟩
end
end
noncomputable section
noncomputable abbrev natVs (l : List Nat) : List V := l.map fun d => V.int (d : Nat)
section
variable {C : Cfg} {a : Ad} {A : Around} {H : AH} {Q : V → AH → Prop}
theorem sp_i2dInner (W : W3 C a) {n : Nat} {fi cn ci ca ld : Addr} (hn : 1 ≤ n) : ∀ (d : Nat) {A : Around} {Q : V → AH → Prop} {pre post : AH} {vs : List V} {x L R : Nat}, Room A (d + 1) → R - L ≤ 2 ^ d → L < R → R ≤ vs.length → vs.length ≤ 10000 → n * (R - L) ≤ 100000 → x < 2 ^ (n * (R - L)) →
    (fi, AO.fn (F_i2dInner [("n", cn), ("inner", ci), ("a_digits", ca)])) ∈ pre ++ post → (cn, AO.cell (some (.int (n : Nat)))) ∈ pre ++ post → (ci, AO.cell (some (.ref fi))) ∈ pre ++ post → (ca, AO.cell (some (.ref ld))) ∈ pre ++ post →
    Q .none (pre ++ (ld, .list (splice vs L (natVs (digs x n (R - L))))) :: post) →
    WPC C A (.ref fi) [.int x, .int L, .int R] Q (pre ++ (ld, .list vs) :: post) := by
  intro d
  induction d with
  | zero =>
    intro A Q pre post vs x L R hr hd hlt hR hz hnz hx m1 m2 m3 m4 q
    have G := W.G
    have ins : ∀ {p : Addr × AO} {r : Addr × AO}, p ∈ pre ++ post → p ∈ pre ++ r :: post := fun h => by
      rcases List.mem_append.mp h with h | h
      · exact List.mem_append_left _ h
      · exact List.mem_append_right _ (List.mem_cons_of_mem _ h)
    have m1' := ins (r := (ld, .list vs)) m1
    have m2' := ins (r := (ld, .list vs)) m2
    have m3' := ins (r := (ld, .list vs)) m3
    have m4' := ins (r := (ld, .list vs)) m4
    refine call_ok (cl := [("n", cn), ("inner", ci), ("a_digits", ca)]) (ok_i2dInner _) G (fnAt_of_fn m1') hr rfl rfl (by walk_at "init") rfl rfl fun Lo cd A' env hr' hD FE he => ?_
    have hRL : R = L + 1 := by lia
    subst hRL
    repeat walk_at "s"
    refine ⟨fun _ => ?_, fun h => by simp at h⟩
    repeat walk_at "s"
    refine wp1_Assign ?_
    repeat walk_at "s"
    refine asg_Subscript ?_
    repeat walk_at "s"
    refine set_list (.tail .of_split) (by lia) (by lia) (by lia) ?_
    repeat walk_at "s"
    refine ⟨_, .drop (.refl _), ?_⟩
    have e1 : L + 1 - L = 1 := by lia
    rw [e1] at q hx
    rw [digs_one (by simpa using hx)] at q
    rw [Int.toNat_natCast, splice_one (by lia)]
    exact q
  | succ d ih =>
    intro A Q pre post vs x L R hr hd hlt hR hz hnz hx m1 m2 m3 m4 q
    have G := W.G
    have ins : ∀ {p : Addr × AO} {r : Addr × AO}, p ∈ pre ++ post → p ∈ pre ++ r :: post := fun h => by
      rcases List.mem_append.mp h with h | h
      · exact List.mem_append_left _ h
      · exact List.mem_append_right _ (List.mem_cons_of_mem _ h)
    have m1' := ins (r := (ld, .list vs)) m1
    have m2' := ins (r := (ld, .list vs)) m2
    have m3' := ins (r := (ld, .list vs)) m3
    have m4' := ins (r := (ld, .list vs)) m4
    refine call_ok (cl := [("n", cn), ("inner", ci), ("a_digits", ca)]) (ok_i2dInner _) G (fnAt_of_fn m1') hr rfl rfl (by walk_at "init") rfl rfl fun Lo cd A' env hr' hD FE he => ?_
    by_cases h1 : R = L + 1
    · subst h1
      repeat walk_at "s"
      refine ⟨fun _ => ?_, fun h => by simp at h⟩
      repeat walk_at "s"
      refine wp1_Assign ?_
      repeat walk_at "s"
      refine asg_Subscript ?_
      repeat walk_at "s"
      refine set_list (.tail .of_split) (by lia) (by lia) (by lia) ?_
      repeat walk_at "s"
      refine ⟨_, .drop (.refl _), ?_⟩
      have e1 : L + 1 - L = 1 := by lia
      rw [e1] at q hx
      rw [digs_one (by simpa using hx)] at q
      rw [Int.toNat_natCast, splice_one (by lia)]
      exact q
    · repeat walk_at "s"
      refine ⟨fun h => absurd (by simp at h; lia) h1, fun _ => ?_⟩
      repeat walk_at "s"
      refine op_rshift_int (by decide) ?_
      have e0 : ((L : Int) + (R : Int)).fdiv (2 ^ (1 : Int).toNat) = (((L + R) / 2 : Nat) : Int) := shr_nat (L + R) 1
      rw [e0]
      generalize hM : (L + R) / 2 = M
      repeat walk_at "s"
      have hML : L < M := by lia
      have hMR : M < R := by lia
      have hsum : n * (R - L) = n * (M - L) + n * (R - M) := by rw [← Nat.mul_add]; congr 1; lia
      have hnle : n ≤ 100000 := Nat.le_trans (Nat.le_mul_of_pos_right n (by lia : 0 < R - L)) hnz
      refine op_mul_int (mulOk (k := 20) (l := 20) (by have : (2 : Nat) ^ 20 = 1048576 := rfl; lia) (by have : (2 : Nat) ^ 20 = 1048576 := rfl; lia) (by decide)) ?_
      have e2 : ((M : Int) - (L : Int)) * (n : Int) = ((n * (M - L) : Nat) : Int) := by
        rw [Nat.mul_comm]; push_cast; congr 1; lia
      rw [e2]
      generalize hS : n * (M - L) = S at hsum ⊢
      repeat walk_at "s"
      refine op_rshift_int (by lia) ?_
      rw [shr_nat]
      have hu : x / 2 ^ S < 2 ^ (n * (R - M)) := by
        rw [Nat.div_lt_iff_lt_mul (Nat.two_pow_pos _), ← Nat.pow_add]
        have : n * (R - M) + S = n * (R - L) := by lia
        rw [this]; exact hx
      repeat walk_at "s"
      refine op_lshift_int (by lia) ?_ ?_
      · have : Builtin.Int.intBits ((x / 2 ^ S : Nat) : Int) ≤ n * (R - M) := intBits_le (by rw [Int.natAbs_natCast]; exact hu)
        have h2 : (2 : Int) ^ 27 = 134217728 := rfl
        rw [h2]
        lia
      rw [shl_nat]
      refine op_xor_int ?_
      rw [xor_low]
      repeat walk_at "s"
      have q' := q
      have e3 : R - L = (M - L) + (R - M) := by lia
      rw [e3, digs_add, hS] at q'
      refine ih (pre := (Lo, AO.ns _ _) :: pre) hr' (by have := Nat.pow_succ 2 d; lia) hML (by lia) hz (by lia) (by rw [hS]; exact Nat.mod_lt _ (Nat.two_pow_pos _)) (.tail _ m1) (.tail _ m2) (.tail _ m3) (.tail _ m4) ?_
      rw [List.cons_append]
      have n2 := ins (r := (ld, .list (splice vs L (natVs (digs (x % 2 ^ S) n (M - L)))))) m2
      have n3 := ins (r := (ld, .list (splice vs L (natVs (digs (x % 2 ^ S) n (M - L)))))) m3
      have n4 := ins (r := (ld, .list (splice vs L (natVs (digs (x % 2 ^ S) n (M - L)))))) m4
      repeat walk_at "s"
      have hDl : (natVs (digs (x % 2 ^ S) n (M - L))).length = M - L := by simp [digs_length]
      have hDr : (natVs (digs (x / 2 ^ S) n (R - M))).length = R - M := by simp [digs_length]
      have hlen : (splice vs L (natVs (digs (x % 2 ^ S) n (M - L)))).length = vs.length := splice_length (by rw [hDl]; lia)
      refine ih (pre := (Lo, AO.ns _ _) :: pre) hr' (by have := Nat.pow_succ 2 d; lia) hMR (by lia) (by lia) (by lia) hu (.tail _ m1) (.tail _ m2) (.tail _ m3) (.tail _ m4) ?_
      rw [List.cons_append]
      repeat walk_at "s"
      refine ⟨_, .drop (.refl _), ?_⟩
      have e4 : M = L + (natVs (digs (x % 2 ^ S) n (M - L))).length := by rw [hDl]; lia
      have e5 := splice_splice (vs := vs) (i := L) (D := natVs (digs (x % 2 ^ S) n (M - L))) (E := natVs (digs (x / 2 ^ S) n (R - M))) (by rw [hDl, hDr]; lia)
      rw [← e4] at e5
      rw [e5]
      rw [natVs, List.map_append] at q'
      exact q'
end
end
noncomputable section
section
variable {C : Cfg} {a : Ad} {A : Around} {H : AH} {Q : V → AH → Prop}
theorem sp_int2digits {x n : Nat} (W : W3 C a) (hr : Room A 20) (hn : 1 ≤ n) (hx : x < 2 ^ 8000) (hn' : n ≤ 8000) (hT : (a.pI2d, AO.tab "_int2digits.<locals>.inner") ∈ H)
    (q : ∀ l, Q (.ref l) ((l, .list (natVs (digs x n (ndig x n)))) :: H)) : WPC C A (.ref a.i2d) [.int x, .int n] Q H := by
  have G := W.G
  obtain ⟨c, hF, hC⟩ := W.i2d
  have hk : ndig x n ≤ 8000 := ndig_le hn (Nat.lt_of_lt_of_le hx (Nat.pow_le_pow_right (by decide) (Nat.le_mul_of_pos_left _ hn)))
  refine call_okC ok_int2digits G (fun s R => hF.keeps R.keep) hr rfl rfl rfl (vals := [some (.int x)]) rfl (VOk.get (.some .head (.rest rfl))) fun L cs A' env hcs hr' FE he => ?_
  · obtain ⟨c1, c2, c3, rfl⟩ := cells3 hcs
    refine ⟨_, .other (.other (.param (.tail .head) .nil)), ?_⟩
    have hA := hr'.hd
    simp only [List.cons_append, List.nil_append]
    repeat walk_at "s"
    intro l0
    repeat walk_at "s"
    refine wpm_bitlen ?_
    repeat walk_at "s"
    refine c_bitlen ?_
    repeat walk_at "s"
    have e1 : ((Builtin.Int.intBits (x : Int) : Nat) : Int) + (n : Int) - 1 = ((Builtin.Int.intBits (x : Int) + n - 1 : Nat) : Int) := by lia
    rw [e1]
    refine op_floordiv_int (by lia) (PyProof.noPylong_small (by lia)) ?_
    rw [fdiv_nat, show (Builtin.Int.intBits (x : Int) + n - 1) / n = ndig x n from rfl]
    refine op_mul_list (by walk_at "mem") (by lia) (by lia) ?_
    intro l
    rw [Int.toNat_natCast]
    repeat walk_at "s"
    refine wp1_DefF (F_i2dInner [("n", c3), ("inner", c1), ("a_digits", c2)]) G (by rw [he]; rfl) hC (by rw [he]; rfl) (by walk_at "mem") (closure_of (fs := ["a_digits", "inner", "n"]) (cs := [c2, c1, c3]) FE (by decide +kernel) rfl (by simp)) ?_ (he ▸ qual_in (k := .cell) (by decide +kernel) (by decide) (by decide +kernel))
    intro fi
    repeat walk_at "s"
    refine ⟨fun hx0 => ?_, fun hx0 => ?_⟩
    · have hx1 : x ≠ 0 := by simpa using hx0
      repeat walk_at "s"
      refine c_len_list (by walk_at "mem") (by simp; lia) ?_
      repeat walk_at "s"
      rw [List.length_replicate]
      have h13 : (2 : Nat) ^ 13 = 8192 := rfl
      have hbits : Builtin.Int.intBits (x : Int) ≤ 8000 := intBits_le (by rw [Int.natAbs_natCast]; exact hx)
      have hmul := ndig_mul_le (x := x) (n := n)
      refine sp_i2dInner (fi := fi) (cn := c3) (ci := c1) (ca := c2) (ld := l) W hn 13 (pre := [(fi, _)]) (L := 0) (hr'.mono (by decide)) (by lia) (by have := ndig_pos hn hx1; lia) (by simp) (by simp; lia) (by rw [Nat.sub_zero]; lia) (by simpa using lt_ndig hn) (by simp) (by simp) (by simp) (by simp) ?_
      simp only [List.cons_append, List.nil_append, Nat.sub_zero]
      repeat walk_at "s"
      refine ⟨(l, _) :: H, .pick (.tail .head) (by walk_at "sub"), ?_⟩
      rw [splice_all (by simp [digs_length])]
      exact q l
    · have hx1 : x = 0 := by simpa using hx0
      subst hx1
      repeat walk_at "s"
      refine ⟨(l, _) :: H, .pick (.tail .head) (by walk_at "sub"), ?_⟩
      have e0 : ndig 0 n = 0 := by
        have := ndig_le (x := 0) (n := n) (k := 0) hn (by simp)
        lia
      have := q l
      rw [e0] at this ⊢
      exact this
end
end
noncomputable section
section
variable {C : Cfg} {a : Ad} {A : Around} {H : AH} {Q : V → AH → Prop}
theorem take_drop_split {α : Type} (l : List α) {i m j : Nat} (h1 : i ≤ m) (h2 : m ≤ j) : (l.drop i).take (j - i) = (l.drop i).take (m - i) ++ (l.drop m).take (j - m) := by
  have e : j - i = (m - i) + (j - m) := by lia
  rw [e, List.take_add, List.drop_drop]
  congr 3
  lia
theorem sp_d2iInner (W : W3 C a) {n : Nat} {fi cn ci ca ld : Addr} {ds : List Int} {B : Nat} (hB : B ≤ 10000) (hds : ∀ d ∈ ds, d.natAbs < 2 ^ B) (hz : ds.length ≤ 8000) (hnz : (n + 1) * ds.length ≤ 100000) : ∀ (d : Nat) {A : Around} {Q : V → AH → Prop} {H : AH} {L R : Nat}, Room A (d + 1) → R - L ≤ 2 ^ d → L < R → R ≤ ds.length →
    (fi, AO.fn (F_d2iInner [("n", cn), ("inner", ci), ("digits", ca)])) ∈ H → (cn, AO.cell (some (.int (n : Nat)))) ∈ H → (ci, AO.cell (some (.ref fi))) ∈ H → (ca, AO.cell (some (.ref ld))) ∈ H → (ld, AO.list (ds.map V.int)) ∈ H →
    Q (.int (d2i n ((ds.drop L).take (R - L)))) H →
    WPC C A (.ref fi) [.int L, .int R] Q H := by
  intro d
  induction d with
  | zero =>
    intro A Q H L R hr hd hlt hR m1 m2 m3 m4 m5 q
    have G := W.G
    refine call_ok (cl := [("n", cn), ("inner", ci), ("digits", ca)]) (ok_d2iInner _) G (fnAt_of_fn m1) hr rfl rfl (by walk_at "init") rfl rfl fun Lo cd A' env hr' hD FE he => ?_
    have hRL : R = L + 1 := by lia
    subst hRL
    repeat walk_at "s"
    refine ⟨fun _ => ?_, fun h => by simp at h⟩
    repeat walk_at "s"
    refine gi_list (v := .int ds[L]) (by walk_at "mem") (by lia) (by simp) (by simp; lia) ?_
    repeat walk_at "s"
    refine ⟨H, by walk_at "sub", ?_⟩
    have e1 : L + 1 - L = 1 := by lia
    have e2 : (ds.drop L).take 1 = [ds[L]] := by rw [List.drop_eq_getElem_cons (by lia)]; rfl
    rw [e1, e2] at q
    show Q (.int _) H
    simpa [d2i] using q
  | succ d ih =>
    intro A Q H L R hr hd hlt hR m1 m2 m3 m4 m5 q
    have G := W.G
    refine call_ok (cl := [("n", cn), ("inner", ci), ("digits", ca)]) (ok_d2iInner _) G (fnAt_of_fn m1) hr rfl rfl (by walk_at "init") rfl rfl fun Lo cd A' env hr' hD FE he => ?_
    by_cases h1 : R = L + 1
    · subst h1
      repeat walk_at "s"
      refine ⟨fun _ => ?_, fun h => by simp at h⟩
      repeat walk_at "s"
      refine gi_list (v := .int ds[L]) (by walk_at "mem") (by lia) (by simp) (by simp; lia) ?_
      repeat walk_at "s"
      refine ⟨H, by walk_at "sub", ?_⟩
      have e1 : L + 1 - L = 1 := by lia
      have e2 : (ds.drop L).take 1 = [ds[L]] := by rw [List.drop_eq_getElem_cons (by lia)]; rfl
      rw [e1, e2] at q
      show Q (.int _) H
      simpa [d2i] using q
    · repeat walk_at "s"
      refine ⟨fun h => absurd (by simp at h; lia) h1, fun _ => ?_⟩
      repeat walk_at "s"
      refine op_rshift_int (by decide) ?_
      have e0 : ((L : Int) + (R : Int)).fdiv (2 ^ (1 : Int).toNat) = (((L + R) / 2 : Nat) : Int) := shr_nat (L + R) 1
      rw [e0]
      generalize hM : (L + R) / 2 = M
      have hML : L < M := by lia
      have hMR : M < R := by lia
      have hMLn : n * (M - L) ≤ 100000 := Nat.le_trans (Nat.mul_le_mul (Nat.le_succ n) (by lia)) hnz
      have hnle : n ≤ 100000 := Nat.le_trans (Nat.le_mul_of_pos_right n (by lia : 0 < M - L)) hMLn
      repeat walk_at "s"
      refine op_mul_int (mulOk (k := 20) (l := 20) (by have : (2 : Nat) ^ 20 = 1048576 := rfl; lia) (by have : (2 : Nat) ^ 20 = 1048576 := rfl; lia) (by decide)) ?_
      have e2 : ((M : Int) - (L : Int)) * (n : Int) = ((n * (M - L) : Nat) : Int) := by
        rw [Nat.mul_comm]; push_cast; congr 1; lia
      rw [e2]
      generalize hS : n * (M - L) = S at hMLn ⊢
      repeat walk_at "s"
      refine ih hr' (by have := Nat.pow_succ 2 d; lia) hMR hR (.tail _ m1) (.tail _ m2) (.tail _ m3) (.tail _ m4) (.tail _ m5) ?_
      repeat walk_at "s"
      refine op_lshift_int (by lia) ?_ ?_
      · have hb := d2i_bound n B ((ds.drop M).take (R - M)) fun e he => hds e (List.mem_of_mem_drop (List.mem_of_mem_take he))
        have hb2 := intBits_le hb
        have hb3 : (n + 1) * ((ds.drop M).take (R - M)).length ≤ (n + 1) * ds.length := Nat.mul_le_mul_left _ (by simp; lia)
        have h2 : (2 : Int) ^ 27 = 134217728 := rfl
        rw [h2]
        lia
      repeat walk_at "s"
      refine ih hr' (by have := Nat.pow_succ 2 d; lia) hML (by lia) (.tail _ m1) (.tail _ m2) (.tail _ m3) (.tail _ m4) (.tail _ m5) ?_
      repeat walk_at "s"
      refine ⟨H, by walk_at "sub", ?_⟩
      rw [take_drop_split ds (Nat.le_of_lt hML) (Nat.le_of_lt hMR), d2i_append] at q
      have e5 : ((ds.drop L).take (M - L)).length = M - L := by simp; lia
      rw [e5, hS] at q
      have e6 : d2i n ((ds.drop M).take (R - M)) * 2 ^ (S : Int).toNat + d2i n ((ds.drop L).take (M - L)) = d2i n ((ds.drop L).take (M - L)) + 2 ^ S * d2i n ((ds.drop M).take (R - M)) := by
        rw [Int.toNat_natCast, Int.mul_comm, Int.add_comm]
      show Q (.int _) H
      rw [e6]
      exact q

theorem sp_digits2int {n : Nat} {ds : List Int} {B : Nat} {ld : Addr} (W : W3 C a) (hr : Room A 20) (hB : B ≤ 10000) (hds : ∀ d ∈ ds, d.natAbs < 2 ^ B) (hz : ds.length ≤ 8000) (hnz : (n + 1) * ds.length ≤ 100000) (hT : (a.pD2i, AO.tab "_digits2int.<locals>.inner") ∈ H) (hl : (ld, AO.list (ds.map V.int)) ∈ H)
    (q : Q (.int (d2i n ds)) H) : WPC C A (.ref a.d2i) [.ref ld, .int n] Q H := by
  have G := W.G
  obtain ⟨c, hF, hC⟩ := W.d2i
  refine call_okC ok_digits2int G (fun s R => hF.keeps R.keep) hr rfl rfl rfl (vals := []) rfl (VOk.get (.rest rfl)) fun L cs A' env hcs hr' FE he => ?_
  obtain ⟨c1, c2, c3, rfl⟩ := cells3 hcs
  refine ⟨_, .other (.param (.tail .head) (.param .head .nil)), ?_⟩
  have hA := hr'.hd
  simp only [List.cons_append, List.nil_append]
  repeat walk_at "s"
  refine wp1_DefF (F_d2iInner [("n", c2), ("inner", c1), ("digits", c3)]) G (by rw [he]; rfl) hC (by rw [he]; rfl) (by walk_at "mem") (closure_of (fs := ["digits", "inner", "n"]) (cs := [c3, c1, c2]) FE (by decide +kernel) rfl (by simp)) ?_ (he ▸ qual_in (k := .cell) (by decide +kernel) (by decide) (by decide +kernel))
  intro fi
  repeat walk_at "s"
  refine tr_list (by walk_at "mem") (by simp; lia) ⟨fun h0 => ?_, fun h0 => ?_⟩
  · repeat walk_at "s"
    refine c_len_list (by walk_at "mem") (by simp; lia) ?_
    have h13 : (2 : Nat) ^ 13 = 8192 := rfl
    rw [List.length_map]
    repeat walk_at "s"
    refine sp_d2iInner (fi := fi) (cn := c2) (ci := c1) (ca := c3) (ld := ld) W hB hds hz hnz 13 (L := 0) (hr'.mono (by decide)) (by lia) (by simpa using h0) (Nat.le_refl _) (by walk_at "mem") (by walk_at "mem") (by walk_at "mem") (by walk_at "mem") (by walk_at "mem") ?_
    repeat walk_at "s"
    refine ⟨H, by walk_at "sub", ?_⟩
    show Q (.int _) H
    simpa using q
  · have : ds = [] := by simpa using h0
    subst this
    repeat walk_at "s"
    exact ⟨H, by walk_at "sub", q⟩
end
end
noncomputable section
section
variable {C : Cfg} {a : Ad} {A : Around} {H : AH} {Q : V → AH → Prop}
theorem noPy {x y : Int} (h : y.natAbs < 2 ^ 8000) : Builtin.divisionGoesByPylong x y = false := by
  refine PyProof.noPylong_of_log2 ?_
  by_cases h0 : y.natAbs = 0
  · rw [h0]; decide
  · exact Nat.lt_trans ((Nat.log2_lt h0).mpr h) (by decide)
theorem digs_get {x n k i : Nat} (h : i < k) : (digs x n k)[i]? = some (x / 2 ^ (n * i) % 2 ^ n) := by
  simp [digs, h]
theorem dm_step (x y n m : Nat) (hy : 0 < y) : x / 2 ^ (n * m) = x / 2 ^ (n * (m + 1)) * 2 ^ n + x / 2 ^ (n * m) % 2 ^ n := by
  have h1 : x / 2 ^ (n * (m + 1)) = x / 2 ^ (n * m) / 2 ^ n := by rw [Nat.div_div_eq_div_mul, ← Nat.pow_add, Nat.mul_add, Nat.mul_one]
  rw [h1, Nat.mul_comm (x / 2 ^ (n * m) / 2 ^ n)]
  exact (Nat.div_add_mod _ _).symm
theorem dm_divmod (T y p d : Nat) (hy : 0 < y) : (T * p + d) / y = T / y * p + (T % y * p + d) / y ∧ (T * p + d) % y = (T % y * p + d) % y := by
  have h := Nat.div_add_mod T y
  have e : T * p + d = y * (T / y * p) + (T % y * p + d) := by
    have h2 : T * p = (y * (T / y) + T % y) * p := by rw [h]
    rw [h2, Nat.add_mul, Nat.mul_assoc]; lia
  constructor
  · rw [e, Nat.mul_add_div hy]
  · rw [e, Nat.mul_add_mod]
theorem sp_divmod_pos {x y : Nat} (W : W3 C a) (hr : Room A 22) (hy : 0 < y) (hx : x < 2 ^ 3000) (hyb : y < 2 ^ 3000) (hT : (a.pI2d, AO.tab "_int2digits.<locals>.inner") ∈ H) (hT2 : (a.pD2i, AO.tab "_digits2int.<locals>.inner") ∈ H)
    (q : Q (.tup [.int (x / y : Nat), .int (x % y : Nat)]) H) : WPC C A (.ref a.dmp) [.int x, .int y] Q H := by
  have G := W.G
  obtain ⟨cd, hF⟩ := W.dmp
  refine call_ok ok_divmod_pos G (fnAt_of_base hF) hr rfl rfl (by walk_at "init") rfl rfl fun L cd A' env hr' hD FE he => ?_
  have hA := hr'.hd
  repeat walk_at "s"
  refine wpm_bitlen ?_
  repeat walk_at "s"
  refine c_bitlen ?_
  have hn1 := bits_pos (x := y) (by lia)
  have hn2 : Builtin.Int.intBits (y : Int) ≤ 3000 := intBits_le (by rw [Int.natAbs_natCast]; exact hyb)
  have hyn := bits_lt y
  generalize Builtin.Int.intBits (y : Int) = n at hn1 hn2 hyn ⊢
  repeat walk_at "s"
  refine sp_int2digits W (hr'.mono (by decide)) hn1 (Nat.lt_trans hx (Nat.pow_lt_pow_right (by decide) (by decide))) (by lia) (by walk_at "mem") ?_
  intro l
  have hxk := lt_ndig (x := x) hn1
  have hbits : Builtin.Int.intBits (x : Int) ≤ 3000 := intBits_le (by rw [Int.natAbs_natCast]; exact hx)
  have hmul := ndig_mul_le (x := x) (n := n)
  generalize ndig x n = k at hxk hmul ⊢
  have hk : k ≤ 6000 := Nat.le_trans (Nat.le_mul_of_pos_left k hn1) (by lia)
  repeat walk_at "s"
  intro ql
  repeat walk_at "s"
  refine wp1_For (wpi_Call ?_)
  repeat walk_at "s"
  refine ci_reversed hA (by walk_at "mem") ?_
  refine ⟨fun i H₁ => ∃ (qs : List Nat) (v1 v2 : Option V), i ≤ k ∧ qs.length = i ∧ (∀ e ∈ qs, e < 2 ^ n) ∧ d2i n (qs.reverse.map Int.ofNat) = ((x / 2 ^ (n * (k - i)) / y : Nat) : Int) ∧
    H₁ = (ql, AO.list (natVs qs)) :: (l, .list (natVs (digs x n k))) :: (L, AO.ns ["a", "b", "n", "a_digits", "r", "q_digits", "a_digit", "q_digit", "q"] [some (.int x), some (.int y), some (.int n), some (.ref l), some (.int ((x / 2 ^ (n * (k - i)) % y : Nat) : Int)), some (.ref ql), v1, v2, none]) :: H, k, ?_, ?_⟩
  · have e0 : x / 2 ^ (n * (k - 0)) = 0 := by rw [Nat.sub_zero]; exact Nat.div_eq_of_lt hxk
    refine ⟨[], none, none, Nat.zero_le _, rfl, by simp, ?_, ?_⟩
    · rw [e0]; simp [d2i]
    · rw [e0, Nat.zero_mod]; rfl
  · rintro i H₁ ⟨qs, v1, v2, hi, hlen, hq, hv, rfl⟩
    by_cases hik : i < k
    · left
      have hm : k - i = (k - (i + 1)) + 1 := by lia
      have hget : (natVs (digs x n k)).reverse[i]? = some (.int ((x / 2 ^ (n * (k - (i + 1))) % 2 ^ n : Nat) : Int)) := by
        rw [List.getElem?_reverse (by simp [digs_length]; exact hik)]
        simp only [natVs, List.length_map, digs_length, List.getElem?_map]
        have : k - 1 - i = k - (i + 1) := by lia
        rw [this, digs_get (by lia)]; rfl
      refine ⟨_, hik, ⟨_, by walk_at "mem", by simp [digs_length], hget.symm⟩, ?_⟩
      have st := dm_step x y n (k - (i + 1)) hy
      rw [hm] at hv ⊢
      generalize x / 2 ^ (n * (k - (i + 1) + 1)) = T at hv st ⊢
      generalize hd : x / 2 ^ (n * (k - (i + 1))) % 2 ^ n = d at st ⊢
      have hdlt : d < 2 ^ n := hd ▸ Nat.mod_lt _ (Nat.two_pow_pos _)
      repeat walk_at "s"
      refine wp1_Assign ?_
      repeat walk_at "s"
      have hT1 : T % y < 2 ^ n := Nat.lt_trans (Nat.mod_lt _ hy) hyn
      refine op_lshift_int (by lia) ?_ ?_
      · have : Builtin.Int.intBits ((T % y : Nat) : Int) ≤ n := intBits_le (by rw [Int.natAbs_natCast]; exact hT1)
        have h2 : (2 : Int) ^ 27 = 134217728 := rfl
        rw [h2]; lia
      rw [shl_nat]
      repeat walk_at "s"
      have e3 : ((T % y * 2 ^ n : Nat) : Int) + (d : Int) = ((T % y * 2 ^ n + d : Nat) : Int) := by push_cast; rfl
      rw [e3]
      have hlt2 : T % y * 2 ^ n + d < 2 ^ (n + n) := by
        rw [Nat.pow_add]
        have := Nat.mul_le_mul_right (2 ^ n) (show T % y + 1 ≤ 2 ^ n from hT1)
        rw [Nat.add_mul, Nat.one_mul] at this
        lia
      refine sp_div2 W (hr'.mono (by decide)) (by lia) ?_ (noPy (by rw [Int.natAbs_natCast]; exact Nat.lt_trans hyb (Nat.pow_lt_pow_right (by decide) (by decide)))) ?_
      · have : Builtin.Int.intBits ((T % y * 2 ^ n + d : Nat) : Int) ≤ n + n := intBits_le (by rw [Int.natAbs_natCast]; exact hlt2)
        lia
      rw [fdiv_nat, fmod_nat]
      refine asg_Tuple hA (wpas_cons ?_)
      repeat walk_at "s"
      refine wpas_cons ?_
      repeat walk_at "s"
      refine wpas_nil ?_
      repeat walk_at "s"
      refine wpm_append (by walk_at "mem") ?_
      repeat walk_at "s"
      refine c_append (by walk_at "upd") (by simp; lia) ?_
      repeat walk_at "s"
      obtain ⟨d1, d2⟩ := dm_divmod T y (2 ^ n) d hy
      have hql : (T % y * 2 ^ n + d) / y < 2 ^ n := by
        rw [Nat.div_lt_iff_lt_mul hy]
        have := Nat.mul_le_mul_right (2 ^ n) (show T % y + 1 ≤ y from Nat.mod_lt _ hy)
        rw [Nat.add_mul, Nat.one_mul, Nat.mul_comm y] at this
        lia
      refine ⟨qs ++ [(T % y * 2 ^ n + d) / y], some (.int (d : Nat)), some (.int ((T % y * 2 ^ n + d) / y : Nat)), hik, by simp [hlen], ?_, ?_, ?_⟩
      · intro e he
        rcases List.mem_append.mp he with he | he
        · exact hq e he
        · rw [List.mem_singleton.mp he]; exact hql
      · rw [List.reverse_append, List.map_append]
        show d2i n (Int.ofNat _ :: qs.reverse.map Int.ofNat) = _
        rw [d2i, hv, st, d1]
        push_cast
        rw [Int.add_comm, Int.mul_comm]
        rfl
      · rw [st, d2]
        simp
    · right
      have : i = k := by lia
      subst this
      refine ⟨⟨_, by walk_at "mem", by simp [digs_length], by simp [digs_length]⟩, ?_⟩
      repeat walk_at "s"
      refine wpm_reverse (by walk_at "mem") ?_
      repeat walk_at "s"
      refine c_reverse (by walk_at "upd") (by simp; lia) ?_
      have er : (natVs qs).reverse = (qs.reverse.map Int.ofNat).map V.int := by
        rw [List.map_map, natVs, ← List.map_reverse]; rfl
      rw [er]
      repeat walk_at "s"
      refine sp_digits2int (B := n) (ds := qs.reverse.map Int.ofNat) W (hr'.mono (by decide)) (by lia) (fun d hd => ?_) (by simp; lia) ?_ (by walk_at "mem") (by walk_at "mem") ?_
      · obtain ⟨e, he, rfl⟩ := List.mem_map.mp hd
        exact hq e (List.mem_reverse.mp he)
      · simp only [List.length_map, List.length_reverse, hlen]
        rw [Nat.add_mul, Nat.one_mul]; lia
      rw [hv, Nat.sub_self, Nat.mul_zero, Nat.pow_zero, Nat.div_one]
      repeat walk_at "s"
      exact ⟨H, by walk_at "sub", q⟩

/-- b is not nought -/
theorem sp_int_divmod (W : W3 C a) (hT : (a.pI2d, AO.tab "_int2digits.<locals>.inner") ∈ H) (hT2 : (a.pD2i, AO.tab "_digits2int.<locals>.inner") ∈ H) {x y : Nat} (hr : Room A 23) (hy : 0 < y) (hx : x < 2 ^ 3000) (hyb : y < 2 ^ 3000)
    (q : Q (.tup [.int (x / y : Nat), .int (x % y : Nat)]) H) : WPC C A (.ref a.idm) [.int x, .int y] Q H := by
  have G := W.G
  obtain ⟨cd, hF⟩ := W.idm
  refine call_ok ok_int_divmod G (fnAt_of_base hF) hr rfl rfl (by walk_at "init") rfl rfl fun L cd A' env hr' hD FE he => ?_
  repeat walk_at "s"
  refine ⟨fun h => absurd h (by simp; lia), fun _ => ?_⟩
  repeat walk_at "s"
  refine ⟨fun h => absurd h (by simp), fun _ => ?_⟩
  repeat walk_at "s"
  refine ⟨fun h => absurd h (by simp), fun _ => ?_⟩
  repeat walk_at "s"
  refine sp_divmod_pos W (hr'.mono (by decide)) hy hx hyb (by walk_at "mem") (by walk_at "mem") ?_
  repeat walk_at "s"
  exact ⟨H, by walk_at "sub", q⟩
end
end
noncomputable section
noncomputable abbrev wsS : Str := "\n\t\r "
/-- a reader's own attributes -/
noncomputable abbrev netA (n : Int) (fp : V) (pb : Addr) : List (Str × V) := [("lineno", .int n), ("instream", fp), ("whitespace", .str wsS), ("pushback", .ref pb)]
theorem net_line {n fp pb} : (netA n fp pb).lookup ("lineno" : Str) = some (V.int n) := rfl
theorem net_in {n fp pb} : (netA n fp pb).lookup ("instream" : Str) = some fp := rfl
theorem net_ws {n fp pb} : (netA n fp pb).lookup ("whitespace" : Str) = some (V.str wsS) := rfl
theorem net_pb {n fp pb} : (netA n fp pb).lookup ("pushback" : Str) = some (V.ref pb) := rfl
theorem net_no1 {n fp pb} : (netA n fp pb).lookup ("_read_char" : Str) = none := rfl
theorem net_no2 {n fp pb} : (netA n fp pb).lookup ("get_token" : Str) = none := rfl
theorem net_no3 {n fp pb} : (netA n fp pb).lookup ("push_token" : Str) = none := rfl
theorem put_line {n m fp pb} : putE "lineno" (.int m) (netA n fp pb) = netA m fp pb := rfl
noncomputable abbrev EL := List (Str × V)
theorem put_1 {n : Int} : putE "lineno" (.int n) [] = ([("lineno", .int n)] : EL) := rfl
theorem put_2 {n : Int} {fp : V} : putE "instream" fp ([("lineno", .int n)] : EL) = ([("lineno", .int n), ("instream", fp)] : EL) := rfl
theorem put_3 {n : Int} {fp : V} {w : V} : putE "whitespace" w ([("lineno", .int n), ("instream", fp)] : EL) = ([("lineno", .int n), ("instream", fp), ("whitespace", w)] : EL) := rfl
theorem put_4 {n : Int} {fp : V} {w p : V} : putE "pushback" p ([("lineno", .int n), ("instream", fp), ("whitespace", w)] : EL) = ([("lineno", .int n), ("instream", fp), ("whitespace", w), ("pushback", p)] : EL) := rfl
section
variable {C : Cfg} {a : Ad} {A : Around} {H H' : AH} {Q : V → AH → Prop} {QU : Unit → AH → Prop} {x dx Cl : Addr} {es es' : List (Str × V)} {name : Str} {gl : List (Str × V)}
theorem sa_own' {v : V} (he : putE name v es = es') (G : C.Ok gl) (O : ClsOk C.K Cl) (ht : takerIn C.K Cl name = some none) (hx : (x, AO.obj (instObj Cl dx)) ∈ H) (hu : Mine.Upd dx (.attrs es) (.attrs es') H H') (hz : es.length ≤ 900) (q : QU () H') :
    Op2 C A URel (fun o v => setAttr o name v) (.ref x) v QU H := sa_own G O hx (he.symm ▸ hu) ht hz q
theorem sp_net {fp : V} (W : W3 C a) (hr : Room A 3) (q : ∀ x dx pb, Q (.ref x) ((x, .obj (instObj a.cls dx)) :: (dx, .attrs (netA 1 fp pb)) :: (pb, .list []) :: H)) : WPC C A (.ref a.cls) [fp] Q H := by
  have G := W.G
  have O := W.cls.ok
  obtain ⟨cd, hF⟩ := W.fInit
  refine mk_inst (F := F_init) (ln := ["self", "fp"]) (vals := [none, some fp]) G O trivial W.cls.init W.cls.initT (fun H => fnAt_of_base hF) hr rfl ok_init.binds (fun x hx => (ok_init.hl x hx).1) ok_init.nd (fun x hx e => nomatch ok_init.allc x hx e) (fun x => .arg (.arg .done)) ?_
  intro x dx L cd' A' hr' hD
  have FE := ok_init.env L a.fInit cd' rfl
  generalize envF F_init L a.fInit cd' F_init.closure = env at FE ⊢
  simp only [List.set_cons_zero]
  repeat walk_at "s"
  refine wp1_Assign ?_
  repeat walk_at "s"
  refine asg_Attribute ?_
  repeat walk_at "s"
  refine sa_own' put_1 G O W.cls.at1.2 (by walk_at "mem") (by walk_at "upd") (by decide) ?_
  repeat walk_at "s"
  refine wp1_Assign ?_
  repeat walk_at "s"
  refine asg_Attribute ?_
  repeat walk_at "s"
  refine sa_own' put_2 G O W.cls.at2.2 (by walk_at "mem") (by walk_at "upd") (by simp) ?_
  repeat walk_at "s"
  refine wp1_Assign ?_
  repeat walk_at "s"
  refine asg_Attribute ?_
  repeat walk_at "s"
  refine sa_own' put_3 G O W.cls.at3.2 (by walk_at "mem") (by walk_at "upd") (by simp) ?_
  repeat walk_at "s"
  refine wp1_Assign ?_
  repeat walk_at "s"
  intro pb
  refine asg_Attribute ?_
  repeat walk_at "s"
  refine sa_own' put_4 G O W.cls.at4.2 (by walk_at "mem") (by walk_at "upd") (by simp) ?_
  repeat walk_at "s"
  exact ⟨(x, .obj (instObj a.cls dx)) :: (dx, .attrs (netA 1 fp pb)) :: (pb, .list []) :: H, .pick (.tail (.tail .head)) (.pick (.tail (.tail .head)) (.pick .head (by walk_at "sub"))), rfl, q x dx pb⟩

theorem not_bi {v : V} (h : ∀ i, v ≠ .bi i) : ∀ i, v = .bi i → handedIn (.builtin i) = true := fun i e => absurd e (h i)
theorem sp_push {x dx pb : Addr} {n : Int} {fp v : V} {vs : List V} (W : W3 C a) (hr : Room A 1) (hx : (x, AO.obj (instObj a.cls dx)) ∈ H) (hd : (dx, AO.attrs (netA n fp pb)) ∈ H) (hu : Mine.Upd pb (.list vs) (.list (vs ++ [v])) H H') (hz : vs.length ≤ 100000) (q : Q .none H') :
    WPC C A (.ref a.fPush) [.ref x, v] Q H := by
  have G := W.G
  obtain ⟨cd, hF⟩ := W.fPush
  refine call_ok ok_push G (fnAt_of_base hF) hr rfl rfl (by walk_at "init") rfl rfl fun L cd A' env hr' hD FE he => ?_
  have hm := hu.mem
  repeat walk_at "s"
  refine ga_own G W.cls.ok (.tail _ hx) (.tail _ hd) net_pb W.cls.at4.1 rfl (not_bi fun i e => nomatch e) ?_
  refine wpm_append (by walk_at "mem") ?_
  repeat walk_at "s"
  refine c_append (.tail hu) hz ?_
  repeat walk_at "s"
  exact ⟨H', by walk_at "sub", q⟩
/-- push_token at a reader, by its name -/
theorem gm_push {x dx pb : Addr} {n : Int} {fp : V} {QM : V → List V → AH → Prop} (W : W3 C a) (hx : (x, AO.obj (instObj a.cls dx)) ∈ H) (hd : (dx, AO.attrs (netA n fp pb)) ∈ H) (q : QM (.ref a.fPush) [.ref x] H) : WPM C A (.ref x) "push_token" QM H :=
  gm_inst W.G W.cls.ok hx hd net_no3 W.cls.push W.cls.pushT q
theorem gm_get {x dx pb : Addr} {n : Int} {fp : V} {QM : V → List V → AH → Prop} (W : W3 C a) (hx : (x, AO.obj (instObj a.cls dx)) ∈ H) (hd : (dx, AO.attrs (netA n fp pb)) ∈ H) (q : QM (.ref a.fGet) [.ref x] H) : WPM C A (.ref x) "get_token" QM H :=
  gm_inst W.G W.cls.ok hx hd net_no2 W.cls.get W.cls.getT q
theorem gm_read {x dx pb : Addr} {n : Int} {fp : V} {QM : V → List V → AH → Prop} (W : W3 C a) (hx : (x, AO.obj (instObj a.cls dx)) ∈ H) (hd : (dx, AO.attrs (netA n fp pb)) ∈ H) (q : QM (.ref a.fRead) [.ref x] H) : WPM C A (.ref x) "_read_char" QM H :=
  gm_inst W.G W.cls.ok hx hd net_no1 W.cls.read W.cls.readT q
theorem ga_pb {x dx pb : Addr} {n : Int} {fp : V} {expr : Bool} (W : W3 C a) (hx : (x, AO.obj (instObj a.cls dx)) ∈ H) (hd : (dx, AO.attrs (netA n fp pb)) ∈ H) (q : Q (.ref pb) H) : Op1 C A (VRel C.X) (fun o => getAttr o "pushback" expr) (.ref x) Q H :=
  ga_own W.G W.cls.ok hx hd net_pb W.cls.at4.1 rfl (not_bi fun i e => nomatch e) q
theorem ga_line {x dx pb : Addr} {n : Int} {fp : V} {expr : Bool} (W : W3 C a) (hx : (x, AO.obj (instObj a.cls dx)) ∈ H) (hd : (dx, AO.attrs (netA n fp pb)) ∈ H) (q : Q (.int n) H) : Op1 C A (VRel C.X) (fun o => getAttr o "lineno" expr) (.ref x) Q H :=
  ga_own W.G W.cls.ok hx hd net_line W.cls.at1.1 rfl (not_bi fun i e => nomatch e) q
theorem ga_ws {x dx pb : Addr} {n : Int} {fp : V} {expr : Bool} (W : W3 C a) (hx : (x, AO.obj (instObj a.cls dx)) ∈ H) (hd : (dx, AO.attrs (netA n fp pb)) ∈ H) (q : Q (.str wsS) H) : Op1 C A (VRel C.X) (fun o => getAttr o "whitespace" expr) (.ref x) Q H :=
  ga_own W.G W.cls.ok hx hd net_ws W.cls.at3.1 rfl (not_bi fun i e => nomatch e) q
theorem ga_in {x dx pb fp : Addr} {n : Int} {expr : Bool} (W : W3 C a) (hx : (x, AO.obj (instObj a.cls dx)) ∈ H) (hd : (dx, AO.attrs (netA n (.ref fp) pb)) ∈ H) (q : Q (.ref fp) H) : Op1 C A (VRel C.X) (fun o => getAttr o "instream" expr) (.ref x) Q H :=
  ga_own W.G W.cls.ok hx hd net_in W.cls.at2.1 rfl (not_bi fun i e => nomatch e) q
end
end
noncomputable section
/-- one sign -/
noncomputable abbrev sg (c : Nat) : Str := ⟨#[c]⟩
noncomputable abbrev signVs (cs : List Nat) : List V := cs.map fun c => V.str (sg c)
section
variable {C : Cfg} {a : Ad} {A : Around} {H H' : AH} {Q : V → AH → Prop}
theorem sp_lam1 {rd cl ll : Addr} {c : Nat} {cs : List Nat} {n : Int} (W : W3 C a) (hr : Room A 1) (m1 : (rd, AO.fn (F_lam [("left", cl)])) ∈ H) (m2 : (cl, AO.cell (some (.ref ll))) ∈ H) (hu : Mine.Upd ll (.list (signVs (c :: cs))) (.list (signVs cs)) H H') (hz : cs.length ≤ 90000)
    (q : Q (.str (sg c)) H') : WPC C A (.ref rd) [.int n] Q H := by
  have G := W.G
  refine call_okE (cl := [("left", cl)]) (ok_lam _) G (fnAt_of_fn m1) hr rfl rfl (by walk_at "init") rfl rfl fun L cd A' env hr' hD FE he => ?_
  have hm := hu.mem
  repeat walk_at "s"
  refine tr_list (by walk_at "mem") (by simp; lia) ⟨fun _ => ?_, fun h => by simp at h⟩
  repeat walk_at "s"
  refine wpm_pop (by walk_at "mem") ?_
  repeat walk_at "s"
  refine c_pop0 (.tail hu) (by simp; lia) ?_
  exact ⟨H', by walk_at "sub", q⟩
theorem sp_lam0 {rd cl ll : Addr} {n : Int} (W : W3 C a) (hr : Room A 1) (m1 : (rd, AO.fn (F_lam [("left", cl)])) ∈ H) (m2 : (cl, AO.cell (some (.ref ll))) ∈ H) (m3 : (ll, AO.list []) ∈ H)
    (q : Q (.str "") H) : WPC C A (.ref rd) [.int n] Q H := by
  have G := W.G
  refine call_okE (cl := [("left", cl)]) (ok_lam _) G (fnAt_of_fn m1) hr rfl rfl (by walk_at "init") rfl rfl fun L cd A' env hr' hD FE he => ?_
  repeat walk_at "s"
  refine tr_list (by walk_at "mem") (by simp) ⟨fun h => by simp at h, fun _ => ?_⟩
  repeat walk_at "s"
  exact ⟨H, by walk_at "sub", q⟩

theorem fs_read : typeLookup (.type "function") "read" = pure none := by rw [typeLookup_type, builtinLookup_eq_fast]; kernel_rfl
/-- a reader's standing parts -/
structure Rd (a : Ad) (x dx fp fd rd cl ll pb : Addr) (H : AH) : Prop where
  x : (x, AO.obj (instObj a.cls dx)) ∈ H
  fp : (fp, AO.fobj fd) ∈ H
  fd : (fd, AO.attrs [("read", .ref rd)]) ∈ H
  rd : (rd, AO.fn (F_lam [("left", cl)])) ∈ H
  cl : (cl, AO.cell (some (.ref ll))) ∈ H
theorem Rd.cons {x dx fp fd rd cl ll pb : Addr} (R : Rd a x dx fp fd rd cl ll pb H) (p : Addr × AO) : Rd a x dx fp fd rd cl ll pb (p :: H) := ⟨.tail _ R.x, .tail _ R.fp, .tail _ R.fd, .tail _ R.rd, .tail _ R.cl⟩
noncomputable abbrev lnOf (n : Int) (c : Nat) : Int := if c = 10 then n + 1 else n
theorem sg_eq (c : Nat) : (sg c == ("\n" : Str)) = decide (c = 10) := by
  have : ("\n" : Str) = sg 10 := by decide +kernel
  rw [this]
  by_cases h : c = 10
  · subst h; rfl
  · rw [decide_eq_false h]
    refine beq_eq_false_iff_ne.mpr fun e => h ?_
    have := congrArg (fun s : Str => s.cps.toList) e
    simpa using this
theorem sp_read {x dx fp fd rd cl ll pb : Addr} {c : Nat} {cs : List Nat} {n : Int} {K : AO → AO → AH} (W : W3 C a) (hr : Room A 2) (R : Rd a x dx fp fd rd cl ll pb H) (hk : Hole2 ll (.list (signVs (c :: cs))) dx (.attrs (netA n (.ref fp) pb)) H K) (hz : cs.length ≤ 90000)
    (hK : Rd a x dx fp fd rd cl ll pb (K (.list (signVs cs)) (.attrs (netA n (.ref fp) pb))))
    (q : Q (.str (sg c)) (K (.list (signVs cs)) (.attrs (netA (lnOf n c) (.ref fp) pb)))) : CodeC C A a.fRead [.ref x] Q H := by
  have G := W.G
  obtain ⟨cd, hF⟩ := W.fRead
  refine code_ok ok_read G (fnAt_of_base hF) hr rfl rfl (by walk_at "init") rfl rfl fun L cd A' env hr' hD FE he => ?_
  have e := hk.eq
  subst e
  have hd := hk.mem2 (.list (signVs (c :: cs))) (.attrs (netA n (.ref fp) pb))
  repeat walk_at "s"
  refine ga_in W (.tail _ R.x) (.tail _ hd) ?_
  refine gm_fobj fs_read (.tail _ R.fp) (.tail _ R.fd) rfl (not_bi fun i e => nomatch e) ?_
  repeat walk_at "s"
  refine sp_lam1 W hr' (.tail _ R.rd) (.tail _ R.cl) (.tail (hk.upd1 _ (.list (signVs cs)) _)) hz ?_
  repeat walk_at "s"
  rw [sg_eq]
  refine ⟨fun h => ?_, fun h => ?_⟩
  · have hc : c = 10 := by simpa using h
    subst hc
    repeat walk_at "s"
    refine wp1_Aug_Attribute ?_
    repeat walk_at "s"
    have hd' := hk.mem2 (.list (signVs cs)) (.attrs (netA n (.ref fp) pb))
    refine ga_line W (.tail _ hK.x) (.tail _ hd') ?_
    repeat walk_at "s"
    refine sa_own' put_line G W.cls.ok W.cls.at1.2 (.tail _ hK.x) (.tail (hk.upd2 _ _ _)) (by simp) ?_
    repeat walk_at "s"
    refine ⟨_, .drop (.refl _), ?_⟩
    rw [lnOf, if_pos rfl] at q
    exact q
  · have hc : c ≠ 10 := by simpa using h
    repeat walk_at "s"
    refine ⟨_, .drop (.refl _), ?_⟩
    rw [lnOf, if_neg hc] at q
    exact q

theorem empty_ne : (("" : Str) == ("\n" : Str)) = false := by decide +kernel
theorem sp_read0 {x dx fp fd rd cl ll pb : Addr} {n : Int} (W : W3 C a) (hr : Room A 2) (R : Rd a x dx fp fd rd cl ll pb H) (hl : (ll, AO.list []) ∈ H) (hd : (dx, AO.attrs (netA n (.ref fp) pb)) ∈ H) (q : Q (.str "") H) : CodeC C A a.fRead [.ref x] Q H := by
  have G := W.G
  obtain ⟨cd, hF⟩ := W.fRead
  refine code_ok ok_read G (fnAt_of_base hF) hr rfl rfl (by walk_at "init") rfl rfl fun L cd A' env hr' hD FE he => ?_
  repeat walk_at "s"
  refine ga_in W (.tail _ R.x) (.tail _ hd) ?_
  refine gm_fobj fs_read (.tail _ R.fp) (.tail _ R.fd) rfl (not_bi fun i e => nomatch e) ?_
  repeat walk_at "s"
  refine sp_lam0 W hr' (.tail _ R.rd) (.tail _ R.cl) (.tail _ hl) ?_
  repeat walk_at "s"
  rw [empty_ne]
  refine ⟨fun h => by simp at h, fun h => ?_⟩
  repeat walk_at "s"
  exact ⟨H, by walk_at "sub", q⟩
end
end
noncomputable section
section
variable {C : Cfg} {a : Ad} {A : Around} {H H' : AH} {Q : V → AH → Prop}
/-- get_token when words wait -/
theorem sp_get_pb {x dx pb : Addr} {n : Int} {fp t : V} {ts : List V} (W : W3 C a) (hr : Room A 1) (hx : (x, AO.obj (instObj a.cls dx)) ∈ H) (hd : (dx, AO.attrs (netA n fp pb)) ∈ H) (hu : Mine.Upd pb (.list (t :: ts)) (.list ts) H H') (hz : ts.length ≤ 90000) (q : Q t H') :
    WPC C A (.ref a.fGet) [.ref x] Q H := by
  have G := W.G
  obtain ⟨cd, hF⟩ := W.fGet
  refine call_ok ok_get G (fnAt_of_base hF) hr rfl rfl (by walk_at "init") rfl rfl fun L cd A' env hr' hD FE he => ?_
  have hm := hu.mem
  repeat walk_at "s"
  refine ga_pb W (.tail _ hx) (.tail _ hd) ?_
  refine tr_list (by walk_at "mem") (by simp; lia) ⟨fun _ => ?_, fun h => by simp at h⟩
  repeat walk_at "s"
  refine ga_pb W (.tail _ hx) (.tail _ hd) ?_
  refine wpm_pop (by walk_at "mem") ?_
  repeat walk_at "s"
  refine c_pop0 (.tail hu) (by lia) ?_
  repeat walk_at "s"
  exact ⟨H', by walk_at "sub", q⟩
end
end
noncomputable section
section
variable {C : Cfg} {a : Ad} {A : Around} {H H' : AH} {Q : V → AH → Prop}
theorem Room.in1 {A : Around} {n : Nat} (r : Room A (n + 1)) : Room A.in1 n := ⟨r.hd, by have := r.depth; show A.depth + n < 900; lia, by have := r.units; show A.units + 1 + 8 * n + 100 < 9900; lia⟩
/-- get_token's own frame over the reader's heap -/
noncomputable abbrev GF (a : Ad) (L x I m : Addr) (t : Str) (ch : Option V) (io : Obj) (R : AH) : AH :=
  (I, AO.obj io) :: (m, AO.obj (methodObj (.ref a.fRead) (.ref x))) :: (L, AO.ns ["self", "token", "fiter", "ch"] [some (.ref x), some (.str t), some (.ref I), ch]) :: R
theorem fRead_fn (W : W3 C a) : ∀ H s, Rel C H s → ∃ o fd, s.heap.get? a.fRead = some o ∧ o.data = .func fd := fun H s R => by
  obtain ⟨cd, hF⟩ := W.fRead
  obtain ⟨o, fd, ho, hd, _⟩ := (hF.keeps R.keep).ex
  exact ⟨o, fd, ho, hd⟩
theorem sg_ne (c : Nat) : sg c ≠ "" := fun e => by
  have h1 : ("" : Str).cps.size = 0 := by decide +kernel
  have h2 : (sg c).cps.size = 0 := by rw [e]; exact h1
  simp at h2
theorem nx_sign {L x I m dx fp fd rd cl ll pb tk : Addr} {c : Nat} {l : List Nat} {n : Int} {t : Str} {ch : Option V} {K : AO → AO → AH} {u v : AO} {H₀ : AH} {QN : Option V → AH → Prop} (W : W3 C a) (hr : Room A 4) (hk : Hole2 ll u dx v H₀ K) (hR : ∀ u v, Rd a x dx fp fd rd cl ll pb (K u v)) (hz : l.length ≤ 80000)
    (q : QN (some (.str (sg c))) (GF a L x I m t ch (ciObj m tk) (K (.list (signVs l)) (.attrs (netA (lnOf n c) (.ref fp) pb))))) :
    WPN C A (.ref I) QN (GF a L x I m t ch (ciObj m tk) (K (.list (signVs (c :: l))) (.attrs (netA n (.ref fp) pb)))) := by
  refine nx_call hr.hd (by walk_at "mem") (by walk_at "mem") (fRead_fn W) ?_
  refine sp_read (K := fun u v => GF a L x I m t ch (ciObj m tk) (K u v)) W (hr.in1.mono (by decide)) (((hR _ _).cons _).cons _ |>.cons _) (.tail (.tail (.tail (hk.re _ _)))) (by lia) (((hR _ _).cons _).cons _ |>.cons _) ?_
  exact ⟨sg c, rfl, by walk_at "mem", by walk_at "mem", fun _ => q, fun e => absurd e (sg_ne c)⟩
theorem nx_eof {L x I m dx fp fd rd cl ll pb tk : Addr} {n : Int} {t : Str} {ch : Option V} {K : AO → AO → AH} {u v : AO} {H₀ : AH} {QN : Option V → AH → Prop} (W : W3 C a) (hr : Room A 4) (hk : Hole2 ll u dx v H₀ K) (hR : ∀ u v, Rd a x dx fp fd rd cl ll pb (K u v))
    (q : QN none (GF a L x I m t ch ciEnd (K (.list []) (.attrs (netA n (.ref fp) pb))))) :
    WPN C A (.ref I) QN (GF a L x I m t ch (ciObj m tk) (K (.list []) (.attrs (netA n (.ref fp) pb)))) := by
  refine nx_call hr.hd (by walk_at "mem") (by walk_at "mem") (fRead_fn W) ?_
  refine sp_read0 W (hr.in1.mono (by decide)) (((hR _ _).cons _).cons _ |>.cons _) (.tail _ (.tail _ (.tail _ (hk.mem1 _ _)))) (.tail _ (.tail _ (.tail _ (hk.mem2 _ _)))) ?_
  exact ⟨"", rfl, by walk_at "mem", by walk_at "mem", fun e => absurd rfl e, fun _ => ⟨_, .head, q⟩⟩
end
end
noncomputable section
section
variable {C : Cfg} {a : Ad} {A : Around} {H H' : AH} {Q : V → AH → Prop}
theorem wps_mid {env : Env} {QF : Fl → AH → Prop} {st : Stmt} {rest : List Stmt} (I : AH → Prop) (h : WP1 C A env st (fun f H₁ => f = .next ∧ I H₁) H) (k : ∀ H₁, I H₁ → WPS C A env rest QF H₁) : WPS C A env (st :: rest) QF H :=
  wps_cons fun s R => wpAny_mono (h s R) (fun _ _ ⟨x, H₁, ⟨hx, q⟩, rx, R₁, kp⟩ => ⟨x, H₁, by subst hx; exact k H₁ q, rx, R₁, kp⟩) fun _ _ e => e
inductive RdB (tok cs' : List Nat) (n' : Int) (a : Ad) (L x I m : Addr) (K : AO → AO → AH) (fp pb : Addr) (H₁ : AH) : Prop
  | mk (ch : Option V) (e : H₁ = GF a L x I m (mkS tok) ch ciEnd (K (.list (signVs cs')) (.attrs (netA n' (.ref fp) pb)))) : RdB tok cs' n' a L x I m K fp pb H₁
inductive RdA (k : Nat) (tok cs' : List Nat) (n' : Int) (a : Ad) (L x I m : Addr) (tk : Nat) (K : AO → AO → AH) (fp pb : Addr) (i : Nat) (H₁ : AH) : Prop
  | mk (l : List Nat) (n2 : Int) (ch : Option V) (h1 : l.length + i ≤ k) (h2 : tGo l n2 = (tok, cs', n')) (e : H₁ = GF a L x I m "" ch (ciObj m tk) (K (.list (signVs l)) (.attrs (netA n2 (.ref fp) pb)))) : RdA k tok cs' n' a L x I m tk K fp pb i H₁
inductive RdQ (k : Nat) (tok cs' : List Nat) (n' : Int) (a : Ad) (L x I m : Addr) (tk : Nat) (K : AO → AO → AH) (fp pb : Addr) (j : Nat) (H₁ : AH) : Prop
  | mk (l2 t2 : List Nat) (n3 : Int) (ch : Option V) (h1 : l2.length + j ≤ k) (h2 : t2.length + l2.length ≤ k) (h3 : qGo t2 l2 n3 = (tok, cs', n')) (e : H₁ = GF a L x I m (mkS t2) ch (ciObj m tk) (K (.list (signVs l2)) (.attrs (netA n3 (.ref fp) pb)))) : RdQ k tok cs' n' a L x I m tk K fp pb j H₁
inductive RdM (k : Nat) (tok cs' : List Nat) (n' : Int) (a : Ad) (L x I m : Addr) (tk : Nat) (K : AO → AO → AH) (fp pb : Addr) (H₁ : AH) : Prop
  | mk (l2 t2 : List Nat) (n3 : Int) (h1 : l2.length ≤ k) (h2 : t2.length ≤ 1) (h3 : bGo t2 l2 n3 = (tok, cs', n')) (e : H₁ = GF a L x I m "" (some (.str (mkS t2))) (ciObj m tk) (K (.list (signVs l2)) (.attrs (netA n3 (.ref fp) pb)))) : RdM k tok cs' n' a L x I m tk K fp pb H₁
inductive RdW (k : Nat) (tok cs' : List Nat) (n' : Int) (a : Ad) (L x I m : Addr) (tk : Nat) (K : AO → AO → AH) (fp pb : Addr) (j : Nat) (H₁ : AH) : Prop
  | mk (l3 t3 : List Nat) (n4 : Int) (ch : Option V) (h1 : l3.length + j ≤ k) (h2 : t3.length + l3.length ≤ k + 1) (h3 : bGo t3 l3 n4 = (tok, cs', n')) (e : H₁ = GF a L x I m (mkS t3) ch (ciObj m tk) (K (.list (signVs l3)) (.attrs (netA n4 (.ref fp) pb)))) : RdW k tok cs' n' a L x I m tk K fp pb j H₁
/-- get_token when no word waits -/
theorem sp_get_rd {x dx fp fd rd cl ll pb : Addr} {cs : List Nat} {n : Int} {K : AO → AO → AH} (W : W3 C a) (hr : Room A 6) (hk : Hole2 ll (.list (signVs cs)) dx (.attrs (netA n (.ref fp) pb)) H K) (hz : cs.length ≤ 80000)
    (hR : ∀ u v, Rd a x dx fp fd rd cl ll pb (K u v)) (hp : ∀ u v, (pb, AO.list []) ∈ K u v) {tok cs' : List Nat} {n' : Int} (ht : tGo cs n = (tok, cs', n'))
    (q : Q (.str (mkS tok)) (K (.list (signVs cs')) (.attrs (netA n' (.ref fp) pb)))) :
    WPC C A (.ref a.fGet) [.ref x] Q H := by
  have G := W.G
  obtain ⟨cd, hF⟩ := W.fGet
  have e := hk.eq
  subst e
  refine call_ok ok_get G (fnAt_of_base hF) hr rfl rfl (by walk_at "init") rfl rfl fun L cd A' env hr' hD FE he => ?_
  have hA := hr'.hd
  have hx := (hR (.list (signVs cs)) (.attrs (netA n (.ref fp) pb))).x
  have hd := hk.mem2 (.list (signVs cs)) (.attrs (netA n (.ref fp) pb))
  have hpb := hp (.list (signVs cs)) (.attrs (netA n (.ref fp) pb))
  repeat walk_at "s"
  refine ga_pb W (.tail _ hx) (.tail _ hd) ?_
  refine tr_list (by walk_at "mem") (by simp) ⟨fun h => by simp at h, fun _ => ?_⟩
  repeat walk_at "s"
  refine ga_bound G W.cls.ok (.tail _ hx) (.tail _ hd) net_no1 W.cls.read W.cls.readT W.cls.readG W.cls.readS (by decide +kernel) ?_
  intro m
  repeat walk_at "s"
  refine c_iter2 (by walk_at "mem") ?_
  intro I tk
  repeat walk_at "s"
  have hR4 := hr'.mono (show 4 ≤ 5 by decide)
  refine wp1_ForE I (fun i H₁ => RdA cs.length tok cs' n' a L x I m tk K fp pb i H₁ ∨ RdB tok cs' n' a L x I m K fp pb H₁) (cs.length + 1) ?_ ?_ ?_
  · rintro i H₁ s (⟨l, n2, ch, _, _, rfl⟩ | ⟨ch, rfl⟩) R
    · exact ci_self rfl (.head _) R
    · exact ci_self rfl (.head _) R
  · repeat walk_at "s"
    exact ⟨rfl, .inl ⟨cs, n, none, Nat.le_refl _, ht, rfl⟩⟩
  · rintro i H₁ hi (⟨l, n2, ch, hli, hg, rfl⟩ | ⟨ch, rfl⟩)
    · cases l with
      | nil =>
        refine nx_eof W hR4 hk hR ?_
        simp only [tGo, Prod.mk.injEq] at hg
        obtain ⟨rfl, rfl, rfl⟩ := hg
        repeat walk_at "s"
        exact ⟨_, .drop (.drop (.drop (.refl _))), q⟩
      | cons c l =>
        refine nx_sign W hR4 hk hR (by simp at hli; lia) ⟨by simp at hli; lia, ?_⟩
        have hd2 := hk.mem2 (.list (signVs l)) (.attrs (netA (lnOf n2 c) (.ref fp) pb))
        have hx2 := (hR (.list (signVs l)) (.attrs (netA (lnOf n2 c) (.ref fp) pb))).x
        repeat walk_at "s"
        refine ga_ws W (.tail _ (.tail _ (.tail _ hx2))) (.tail _ (.tail _ (.tail _ hd2))) ?_
        refine op_in_str ?_
        rw [ws_in]
        repeat walk_at "s"
        refine ⟨fun hw => ?_, fun hw => ?_⟩
        · repeat walk_at "s"
          refine .inl ⟨l, lnOf n2 c, some (.str (sg c)), by simp at hli; lia, ?_, rfl⟩
          rw [tGo_ws hw] at hg
          exact hg
        · repeat walk_at "s"
          rw [sg_is c 34 q_sign]
          refine ⟨fun h34 => ?_, fun h34 => ?_⟩
          · have hc : c = 34 := by simpa using h34
            subst hc
            rw [tGo_q] at hg
            repeat walk_at "s"
            have e34 : lnOf n2 34 = n2 := rfl
            have hl8 : l.length ≤ 80000 := by simp at hli; lia
            rw [e34]
            refine wp1_ForE I (fun j H₁ => RdQ l.length tok cs' n' a L x I m tk K fp pb j H₁ ∨ RdB tok cs' n' a L x I m K fp pb H₁) (l.length + 1) ?_ ?_ ?_
            · rintro j H₁ s (⟨l2, t2, n3, ch, _, _, _, rfl⟩ | ⟨ch, rfl⟩) R
              · exact ci_self rfl (.head _) R
              · exact ci_self rfl (.head _) R
            · repeat walk_at "s"
              exact ⟨rfl, .inl ⟨l, [], n2, _, Nat.le_refl _, by simp, hg, by rw [mkS_nil]⟩⟩
            · rintro j H₁ hj (⟨l2, t2, n3, ch, hlj, htl, hq, rfl⟩ | ⟨ch, rfl⟩)
              · cases l2 with
                | nil =>
                  refine nx_eof W hR4 hk hR ?_
                  rw [show qGo t2 [] n3 = (t2, [], n3) from rfl] at hq
                  simp only [Prod.mk.injEq] at hq
                  obtain ⟨rfl, rfl, rfl⟩ := hq
                  repeat walk_at "s"
                  exact .inr ⟨_, rfl⟩
                | cons c l3 =>
                  refine nx_sign W hR4 hk hR (by simp at htl hli; lia) ⟨by simp at hlj; lia, ?_⟩
                  repeat walk_at "s"
                  rw [sg_is c 34 q_sign]
                  refine ⟨fun h34 => ?_, fun h34 => ?_⟩
                  · have hc : c = 34 := by simpa using h34
                    subst hc
                    rw [qGo_q] at hq
                    simp only [Prod.mk.injEq] at hq
                    obtain ⟨rfl, rfl, rfl⟩ := hq
                    repeat walk_at "s"
                    exact ⟨_, .drop (.drop (.drop (.refl _))), q⟩
                  · have hc : c ≠ 34 := by simpa using h34
                    repeat walk_at "s"
                    rw [sg_is c 92 b_sign]
                    refine ⟨fun h92 => ?_, fun h92 => ?_⟩
                    · have hc2 : c = 92 := by simpa using h92
                      subst hc2
                      have e92 : lnOf n3 92 = n3 := rfl
                      rw [e92]
                      have hd3 := hk.mem2 (.list (signVs l3)) (.attrs (netA n3 (.ref fp) pb))
                      have hx3 := (hR (.list (signVs l3)) (.attrs (netA n3 (.ref fp) pb))).x
                      repeat walk_at "s"
                      refine gm_read W (.tail _ (.tail _ (.tail _ hx3))) (.tail _ (.tail _ (.tail _ hd3))) ?_
                      repeat walk_at "s"
                      refine WPC.of_code (fRead_fn W _) ?_
                      cases l3 with
                      | nil =>
                        refine sp_read0 W (hr'.mono (by decide)) (((hR _ _).cons _).cons _ |>.cons _) (.tail _ (.tail _ (.tail _ (hk.mem1 _ _)))) (.tail _ (.tail _ (.tail _ hd3))) ?_
                        rw [qGo_e0] at hq
                        repeat walk_at "s"
                        rw [mkS_nil]
                        refine iop_add_str (by simp [Str.length] at htl ⊢; lia) ?_
                        rw [mkS_app, List.append_nil]
                        repeat walk_at "s"
                        exact .inl ⟨[], t2, n3, _, by simp at hlj ⊢; lia, by simp at htl ⊢; lia, hq, rfl⟩
                      | cons d ds =>
                        refine sp_read (K := fun u v => GF a L x I m (mkS t2) (some (.str (sg 92))) (ciObj m tk) (K u v)) W (hr'.mono (by decide)) (((hR _ _).cons _).cons _ |>.cons _) (.tail (.tail (.tail (hk.re _ _)))) (by simp at htl; lia) (((hR _ _).cons _).cons _ |>.cons _) ?_
                        rw [qGo_e] at hq
                        repeat walk_at "s"
                        refine iop_add_str (by simp [Str.length] at htl ⊢; lia) ?_
                        rw [mkS_app]
                        repeat walk_at "s"
                        exact .inl ⟨ds, t2 ++ [d], lnOf n3 d, _, by simp at hlj ⊢; lia, by simp at htl ⊢; lia, hq, rfl⟩
                    · have hc2 : c ≠ 92 := by simpa using h92
                      rw [qGo_b hc hc2] at hq
                      repeat walk_at "s"
                      refine iop_add_str (by simp [Str.length] at htl ⊢; lia) ?_
                      rw [mkS_app]
                      repeat walk_at "s"
                      exact .inl ⟨l3, t2 ++ [c], lnOf n3 c, _, by simp at hlj; lia, by simp at htl ⊢; lia, hq, rfl⟩
              · refine nx_end hA (.head _) ?_
                repeat walk_at "s"
                exact .inr ⟨_, rfl⟩
          · have hc : c ≠ 34 := by simpa using h34
            have hw' : isW c = false := by simpa using hw
            refine wps_mid (RdM l.length tok cs' n' a L x I m tk K fp pb) ?_ ?_
            · repeat walk_at "s"
              rw [sg_is c 92 b_sign]
              refine ⟨fun h92 => ?_, fun h92 => ?_⟩
              · have hc2 : c = 92 := by simpa using h92
                subst hc2
                have e92 : lnOf n2 92 = n2 := rfl
                rw [e92]
                have hd3 := hk.mem2 (.list (signVs l)) (.attrs (netA n2 (.ref fp) pb))
                have hx3 := (hR (.list (signVs l)) (.attrs (netA n2 (.ref fp) pb))).x
                repeat walk_at "s"
                refine gm_read W (.tail _ (.tail _ (.tail _ hx3))) (.tail _ (.tail _ (.tail _ hd3))) ?_
                repeat walk_at "s"
                refine WPC.of_code (fRead_fn W _) ?_
                cases l with
                | nil =>
                  refine sp_read0 W (hr'.mono (by decide)) (((hR _ _).cons _).cons _ |>.cons _) (.tail _ (.tail _ (.tail _ (hk.mem1 _ _)))) (.tail _ (.tail _ (.tail _ hd3))) ?_
                  rw [tGo_e0] at hg
                  repeat walk_at "s"
                  refine ⟨rfl, [], [], n2, Nat.le_refl _, by simp, ?_, by rw [mkS_nil]⟩
                  rw [← hg]; rfl
                | cons d ds =>
                  refine sp_read (K := fun u v => GF a L x I m "" (some (.str (sg 92))) (ciObj m tk) (K u v)) W (hr'.mono (by decide)) (((hR _ _).cons _).cons _ |>.cons _) (.tail (.tail (.tail (hk.re _ _)))) (by simp at hli; lia) (((hR _ _).cons _).cons _ |>.cons _) ?_
                  rw [tGo_e] at hg
                  repeat walk_at "s"
                  exact ⟨rfl, ds, [d], lnOf n2 d, by simp, by simp, hg, rfl⟩
              · have hc2 : c ≠ 92 := by simpa using h92
                rw [tGo_b hw' hc hc2] at hg
                repeat walk_at "s"
                exact ⟨rfl, l, [c], lnOf n2 c, Nat.le_refl _, by simp, hg, rfl⟩
            · rintro H₁ ⟨l2, t2, n3, hl2, ht2, hg2, rfl⟩
              repeat walk_at "s"
              rw [mkS_nil]
              refine iop_add_str (by simp [Str.length] at ht2 ⊢; lia) ?_
              rw [mkS_app, List.nil_append]
              repeat walk_at "s"
              refine wp1_ForE I (fun j H₁ => RdW l2.length tok cs' n' a L x I m tk K fp pb j H₁ ∨ RdB tok cs' n' a L x I m K fp pb H₁) (l2.length + 1) ?_ ?_ ?_
              · rintro j H₁ s (⟨l3, t3, n4, ch, _, _, _, rfl⟩ | ⟨ch, rfl⟩) R
                · exact ci_self rfl (.head _) R
                · exact ci_self rfl (.head _) R
              · repeat walk_at "s"
                exact ⟨rfl, .inl ⟨l2, t2, n3, _, Nat.le_refl _, by lia, hg2, rfl⟩⟩
              · rintro j H₁ hj (⟨l3, t3, n4, ch, hlj, htl, hq, rfl⟩ | ⟨ch, rfl⟩)
                · cases l3 with
                  | nil =>
                    refine nx_eof W hR4 hk hR ?_
                    rw [show bGo t3 [] n4 = (t3, [], n4) from rfl] at hq
                    simp only [Prod.mk.injEq] at hq
                    obtain ⟨rfl, rfl, rfl⟩ := hq
                    repeat walk_at "s"
                    exact .inr ⟨_, rfl⟩
                  | cons c l3 =>
                    refine nx_sign W hR4 hk hR (by simp at hlj hli; lia) ⟨by simp at hlj; lia, ?_⟩
                    have hd3 := hk.mem2 (.list (signVs l3)) (.attrs (netA (lnOf n4 c) (.ref fp) pb))
                    have hx3 := (hR (.list (signVs l3)) (.attrs (netA (lnOf n4 c) (.ref fp) pb))).x
                    repeat walk_at "s"
                    refine ga_ws W (.tail _ (.tail _ (.tail _ hx3))) (.tail _ (.tail _ (.tail _ hd3))) ?_
                    refine op_in_str ?_
                    rw [ws_in]
                    repeat walk_at "s"
                    refine ⟨fun hw2 => ?_, fun hw2 => ?_⟩
                    · rw [bGo_w hw2] at hq
                      simp only [Prod.mk.injEq] at hq
                      obtain ⟨rfl, rfl, rfl⟩ := hq
                      repeat walk_at "s"
                      exact ⟨_, .drop (.drop (.drop (.refl _))), q⟩
                    · have hw3 : isW c = false := by simpa using hw2
                      repeat walk_at "s"
                      rw [sg_is c 92 b_sign]
                      refine ⟨fun h92 => ?_, fun h92 => ?_⟩
                      · have hc2 : c = 92 := by simpa using h92
                        subst hc2
                        have e92 : lnOf n4 92 = n4 := rfl
                        rw [e92] at hd3 hx3 ⊢
                        repeat walk_at "s"
                        refine gm_read W (.tail _ (.tail _ (.tail _ hx3))) (.tail _ (.tail _ (.tail _ hd3))) ?_
                        repeat walk_at "s"
                        refine WPC.of_code (fRead_fn W _) ?_
                        cases l3 with
                        | nil =>
                          refine sp_read0 W (hr'.mono (by decide)) (((hR _ _).cons _).cons _ |>.cons _) (.tail _ (.tail _ (.tail _ (hk.mem1 _ _)))) (.tail _ (.tail _ (.tail _ hd3))) ?_
                          rw [bGo_e0] at hq
                          repeat walk_at "s"
                          rw [mkS_nil]
                          refine iop_add_str (by simp [Str.length] at htl hli ⊢; lia) ?_
                          rw [mkS_app, List.append_nil]
                          repeat walk_at "s"
                          exact .inl ⟨[], t3, n4, _, by simp at hlj ⊢; lia, by simp at htl ⊢; lia, hq, rfl⟩
                        | cons d ds =>
                          refine sp_read (K := fun u v => GF a L x I m (mkS t3) (some (.str (sg 92))) (ciObj m tk) (K u v)) W (hr'.mono (by decide)) (((hR _ _).cons _).cons _ |>.cons _) (.tail (.tail (.tail (hk.re _ _)))) (by simp at htl hli; lia) (((hR _ _).cons _).cons _ |>.cons _) ?_
                          rw [bGo_e] at hq
                          repeat walk_at "s"
                          refine iop_add_str (by simp [Str.length] at htl hli ⊢; lia) ?_
                          rw [mkS_app]
                          repeat walk_at "s"
                          exact .inl ⟨ds, t3 ++ [d], lnOf n4 d, _, by simp at hlj ⊢; lia, by simp at htl ⊢; lia, hq, rfl⟩
                      · have hc2 : c ≠ 92 := by simpa using h92
                        rw [bGo_b hw3 hc2] at hq
                        repeat walk_at "s"
                        refine iop_add_str (by simp [Str.length] at htl hli ⊢; lia) ?_
                        rw [mkS_app]
                        repeat walk_at "s"
                        exact .inl ⟨l3, t3 ++ [c], lnOf n4 c, _, by simp at hlj; lia, by simp at htl ⊢; lia, hq, rfl⟩
                · refine nx_end hA (.head _) ?_
                  repeat walk_at "s"
                  exact .inr ⟨_, rfl⟩
    · refine nx_end hA (.head _) ?_
      repeat walk_at "s"
      exact ⟨_, .drop (.drop (.drop (.refl _))), q⟩
end
end
noncomputable section
noncomputable def F_lam0 : FnA := lfn "_law_reader.<locals>.<lambda>" [] (nth (cbody (nth PW.main.body 13)) 0)
theorem lamQual : F_reader.qual ++ ".<locals>." ++ "<lambda>" = ("_law_reader.<locals>.<lambda>" : Str) := by decide +kernel
section
variable {C : Cfg} {a : Ad} {A : Around} {H H' : AH} {Q : V → AH → Prop}
theorem sp_reader {ll : Addr} (W : W3 C a) (hr : Room A 5) (hT : (a.pReader, AO.tab "_law_reader.<locals>.<lambda>") ∈ H)
    (q : ∀ x dx pb fd fp rd cl, Q (.ref x) ((x, .obj (instObj a.cls dx)) :: (dx, .attrs (netA 1 (.ref fp) pb)) :: (pb, .list []) :: (fd, .attrs [("read", .ref rd)]) :: (fp, .fobj fd) :: (rd, .fn (F_lam [("left", cl)])) :: (cl, .cell (some (.ref ll))) :: H)) :
    WPC C A (.ref a.reader) [.ref ll] Q H := by
  have G := W.G
  obtain ⟨c, hF, hC⟩ := W.reader
  refine call_okC ok_reader G (fun s R => hF.keeps R.keep) hr rfl rfl rfl (vals := [none]) rfl (VOk.get (.rest rfl)) fun L cs A' env hcs hr' FE he => ?_
  · obtain ⟨c1, rfl⟩ := cells1 hcs
    refine ⟨_, .param .head .nil, ?_⟩
    have hA := hr'.hd
    simp only [List.cons_append, List.nil_append]
    repeat walk_at "s"
    refine wp_LambdaF F_lam0 (q := "_law_reader.<locals>.<lambda>") (cl := []) G (by rw [he]; rfl) hC (by rw [he]; rfl) (by walk_at "mem") (closure_of (fs := []) (cs := []) FE (by decide +kernel) rfl (by simp)) ?_ (by rw [he]; exact lamQual)
    intro fp
    repeat walk_at "s"
    refine wp1_Assign ?_
    refine wp_LambdaF (F_lam [("left", c1)]) (q := "_law_reader.<locals>.<lambda>") G (by rw [he]; rfl) hC (by rw [he]; rfl) (by walk_at "mem") (closure_of (fs := ["left"]) (cs := [c1]) FE (by decide +kernel) rfl (by simp)) ?_ (by rw [he]; exact lamQual)
    intro rd
    refine asg_Attribute ?_
    repeat walk_at "s"
    refine sa_fn fs_read (by walk_at "mem") ?_
    intro d
    refine ⟨_, by walk_at "upd", ?_⟩
    repeat walk_at "s"
    refine sp_net W (hr'.mono (by decide)) ?_
    intro x dx pb
    refine ⟨(x, .obj (instObj a.cls dx)) :: (dx, .attrs (netA 1 (.ref fp) pb)) :: (pb, .list []) :: (d, .attrs [("read", .ref rd)]) :: (fp, .fobj d) :: (rd, .fn (F_lam [("left", c1)])) :: (c1, .cell (some (.ref ll))) :: H, ?_, q _ _ _ _ _ _ _⟩
    refine .pick .head (.pick .head (.pick .head (.pick .head ?_)))
    refine .pick (.tail .head) (.pick .head (.pick .head (by walk_at "sub")))
/-- a line in which words wait -/
inductive LlO (vs : List V) (x : Addr) (a : Ad) (dx : Addr) (fp : Addr) (pb : Addr) (fd : Addr) (rd : Addr) (cl : Addr) (el : Addr) (L : Addr) (wl : Addr) (H : AH) (i : Nat) (H₁ : AH) : Prop
  | mk (h1 : i ≤ vs.length) (w : Option V) (h2 : H₁ = (x, .obj (instObj a.cls dx)) :: (dx, .attrs (netA 1 (.ref fp) pb)) :: (pb, .list (vs.take i)) :: (fd, .attrs [("read", .ref rd)]) :: (fp, .fobj fd) :: (rd, .fn (F_lam [("left", cl)])) :: (cl, .cell (some (.ref el))) :: (el, .list []) :: (L, AO.ns ["words", "line", "word"] [some (.ref wl), some (.ref x), w]) :: H) : LlO vs x a dx fp pb fd rd cl el L wl H i H₁
theorem sp_line {wl : Addr} {vs : List V} (W : W3 C a) (hr : Room A 6) (hT : (a.pReader, AO.tab "_law_reader.<locals>.<lambda>") ∈ H) (hw : (wl, AO.list vs) ∈ H) (hz : vs.length ≤ 90000)
    (q : ∀ x dx pb fp, Q (.ref x) ((x, .obj (instObj a.cls dx)) :: (dx, .attrs (netA 1 fp pb)) :: (pb, .list vs) :: H)) :
    WPC C A (.ref a.line) [.ref wl] Q H := by
  have G := W.G
  obtain ⟨cd, hF⟩ := W.line
  refine call_ok ok_line G (fnAt_of_base hF) hr rfl rfl (by walk_at "init") rfl rfl fun L cd A' env hr' hD FE he => ?_
  have hA := hr'.hd
  repeat walk_at "s"
  intro el
  repeat walk_at "s"
  refine sp_reader W hr' (by walk_at "mem") ?_
  intro x dx pb fd fp rd cl
  repeat walk_at "s"
  refine wp1_For (wpi_value ?_)
  repeat walk_at "s"
  refine pi_list hA (by walk_at "mem") ?_
  refine ⟨LlO vs x a dx fp pb fd rd cl el L wl H, vs.length, ?_, ?_⟩
  · exact ⟨Nat.zero_le _, none, rfl⟩
  · rintro i H₁ ⟨hi, w, rfl⟩
    by_cases hlt : i < vs.length
    · left
      refine ⟨vs[i], hlt, ⟨vs, by walk_at "mem", by simp [hlt]⟩, ?_⟩
      repeat walk_at "s"
      refine gm_push W (by walk_at "mem") (by walk_at "mem") ?_
      repeat walk_at "s"
      refine sp_push W (hr'.mono (by decide)) (by walk_at "mem") (by walk_at "mem") (by walk_at "upd") (by simp; lia) ?_
      repeat walk_at "s"
      exact ⟨hlt, _, by rw [List.take_append_getElem]⟩
    · right
      have hi' : i = vs.length := by lia
      subst hi'
      refine ⟨⟨vs, by walk_at "mem", by simp⟩, ?_⟩
      repeat walk_at "s"
      rw [List.take_length]
      exact ⟨(x, .obj (instObj a.cls dx)) :: (dx, .attrs (netA 1 (.ref fp) pb)) :: (pb, .list vs) :: H, .pick .head (.pick .head (.pick .head (by walk_at "sub"))), q _ _ _ _⟩
/-- Int2AP's word -/
noncomputable abbrev wordL (n : Nat) : List Nat := (apL n).map UInt8.toNat
end
end
noncomputable section
theorem txt_join (sep : Str) (l : List Str) : Txt.join sep l = Str.join sep l := eq_of_beq (join_plain_closes sep l)
theorem join_mkS : ∀ ws : List (List Nat), Str.join (mkS []) (ws.map mkS) = mkS ws.flatten
  | [] => rfl
  | [w] => by simp [Str.join]
  | w :: x :: ws => by
    have ih := join_mkS (x :: ws)
    simp only [List.map_cons] at ih ⊢
    rw [Str.join, ih, mkS_app, mkS_app]
    · simp
    · simp
theorem tjoin_mkS (ws : List (List Nat)) : Txt.join "" (ws.map mkS) = mkS ws.flatten := by rw [txt_join, mkS_nil, join_mkS]
theorem mkS_len (l : List Nat) : (mkS l).length = l.length := by simp [Str.length]
theorem sum_len (ws : List (List Nat)) : ((ws.map mkS).map (·.length)).sum = ws.flatten.length := by
  induction ws with
  | nil => rfl
  | cons w ws ih => simp only [List.map_cons, List.sum_cons, ih, List.flatten_cons, List.length_append, mkS_len]
theorem flat_one (l : List Nat) : (l.map fun c => [c]).flatten = l := by
  induction l with
  | nil => rfl
  | cons c l ih => simp [ih]
theorem mkS_inj {l m : List Nat} (h : mkS l = mkS m) : l = m := by
  have := congrArg (fun s : Str => s.cps.toList) h
  simpa using this
theorem mkS_eq (l m : List Nat) : (mkS l == mkS m) = decide (l = m) := by
  by_cases h : l = m
  · subst h; simp
  · rw [decide_eq_false h]; exact beq_eq_false_iff_ne.mpr fun e => h (mkS_inj e)
end
noncomputable section
section
variable {C : Cfg} {a : Ad} {A : Around} {H H' : AH} {Q : V → AH → Prop}
theorem empty_len : ("" : Str).length = 0 := by decide +kernel
theorem apL_len : ∀ (k n : Nat), n < 16 ^ k → (apL n).length ≤ k
  | 0, n, h => by
    have : n = 0 := by simpa using h
    subst this; rw [apL_zero]; simp
  | k + 1, n, h => by
    by_cases h0 : n = 0
    · subst h0; rw [apL_zero]; simp
    · rw [apL_pos h0, List.length_append]
      have := apL_len k (n / 16) (by rw [Nat.pow_succ] at h; lia)
      simp; lia
inductive WoC (n : Int) (c : Addr) (b : Addr) (L : Addr) (H : AH) (i : Nat) (acc : List V) (H₁ : AH) : Prop
  | mk (h1 : i ≤ (apL n.natAbs).length) (h2 : acc = (((wordL n.natAbs).take i).map fun c => [c]).map (fun l => V.str (mkS l))) (o : Option V) (h3 : H₁ = (c, .ns ["letter"] [o]) :: (b, .list acc) :: (L, AO.ns ["number"] [some (.int n)]) :: H) : WoC n c b L H i acc H₁
theorem sp_word {n : Int} (W : W3 C a) (hr : Room A 2) (hn : n.natAbs < 16 ^ 1000) (q : Q (.str (mkS (wordL n.natAbs))) H) : WPC C A (.ref a.word) [.int n] Q H := by
  have G := W.G
  obtain ⟨cd, hF⟩ := W.word
  refine call_ok ok_word G (fnAt_of_base hF) hr rfl rfl (by walk_at "init") rfl rfl fun L cd A' env hr' hD FE he => ?_
  have hA := hr'.hd
  have hlen := apL_len 1000 n.natAbs hn
  repeat walk_at "s"
  refine wpm_join ?_
  repeat walk_at "s"
  refine wp_LC (ln' := ["letter"]) (gn' := ["chr"]) (fs := []) (cs := []) FE (by walk_at "cp") (by decide +kernel) (by simp) ?_
  refine wpi_value ?_
  repeat walk_at "s"
  refine sp_Int2AP W (hr'.mono (by decide)) hn ?_
  refine pi_bytes hA ?_
  intro b c cenv FE
  refine ⟨WoC n c b L H, (apL n.natAbs).length, ?_, ?_⟩
  · exact ⟨Nat.zero_le _, rfl, none, rfl⟩
  · rintro i acc H₁ _ ⟨hi, rfl, o, rfl⟩
    by_cases hlt : i < (apL n.natAbs).length
    · left
      refine ⟨.int ((apL n.natAbs)[i].toNat : Nat), hlt, by simp [byteItem, fnItem, hlt], ?_⟩
      repeat walk_at "s"
      refine ⟨fun _ => ?_, fun h => nomatch h⟩
      repeat walk_at "s"
      refine c_chr (by lia) (by have := UInt8.toNat_lt (apL n.natAbs)[i]; lia) ?_
      rw [Int.toNat_natCast]
      refine ⟨by simp; lia, _, by walk_at "upd", hlt, ?_, _, rfl⟩
      have e : (wordL n.natAbs).take (i + 1) = (wordL n.natAbs).take i ++ [(apL n.natAbs)[i].toNat] := by
        rw [List.take_succ_eq_append_getElem (by simpa using hlt)]; simp
      rw [e]; simp
    · right
      have hi' : i = (apL n.natAbs).length := by lia
      subst hi'
      refine ⟨by simp [byteItem, fnItem], _, _, .head, ?_⟩
      have e : (wordL n.natAbs).take (apL n.natAbs).length = wordL n.natAbs := List.take_of_length_le (by simp)
      rw [e]
      repeat walk_at "s"
      have e2 : ((wordL n.natAbs).map fun c => [c]).map (fun l => V.str (mkS l)) = (((wordL n.natAbs).map fun c => [c]).map mkS).map V.str := by simp
      rw [e2]
      refine c_join (by walk_at "mem") ?_ ?_
      · rw [sum_len, flat_one, empty_len, Nat.mul_zero]; simp; lia
      · rw [tjoin_mkS, flat_one]
        repeat walk_at "s"
        exact ⟨H, by walk_at "sub", q⟩
end
end
noncomputable section
-- data for comparisons
noncomputable abbrev strVs (ws : List (List Nat)) : List V := ws.map fun l => V.str (mkS l)
noncomputable abbrev intVs (l : List Int) : List V := l.map V.int
noncomputable abbrev dS (l : List Nat) : PyData := .str (mkS l)
noncomputable abbrev dSs (ws : List (List Nat)) : PyData := .list (ws.map dS)
noncomputable abbrev dIs (l : List Int) : PyData := .list (l.map PyData.int)
section
variable {a : Addr} {H : AH}
theorem ds_nil : DsRel H [] [] := by simp only [DsRel]
theorem ds_cons {d : PyData} {v : V} {ds : List PyData} {vs : List V} (h : DRel H d v) (r : DsRel H ds vs) : DsRel H (d :: ds) (v :: vs) := by simp only [DsRel]; exact ⟨v, vs, rfl, h, r⟩
theorem dr_int {i : Int} : DRel H (.int i) (.int i) := by simp only [DRel]
theorem dr_str {l : List Nat} : DRel H (dS l) (.str (mkS l)) := by simp only [DRel]
theorem dr_list {ds : List PyData} {vs : List V} (h : (a, AO.list vs) ∈ H) (r : DsRel H ds vs) : DRel H (.list ds) (.ref a) := by simp only [DRel]; exact ⟨a, vs, rfl, h, r⟩
theorem ds_strs : ∀ ws : List (List Nat), DsRel H (ws.map dS) (strVs ws)
  | [] => ds_nil
  | w :: ws => ds_cons dr_str (ds_strs ws)
theorem ds_ints : ∀ l : List Int, DsRel H (l.map PyData.int) (intVs l)
  | [] => ds_nil
  | w :: ws => ds_cons dr_int (ds_ints ws)
theorem dr_strs {ws : List (List Nat)} (h : (a, AO.list (strVs ws)) ∈ H) : DRel H (dSs ws) (.ref a) := dr_list h (ds_strs ws)
theorem dr_ints {l : List Int} (h : (a, AO.list (intVs l)) ∈ H) : DRel H (dIs l) (.ref a) := dr_list h (ds_ints l)
end
noncomputable def DOk (n : Nat) (d : PyData) : Prop := d.canLay0 = true ∧ d.depth ≤ n
theorem dok_int {i : Int} {n : Nat} : DOk n (.int i) := ⟨rfl, Nat.zero_le _⟩
theorem dok_str {l : List Nat} {n : Nat} (h : ∀ c ∈ l, c < 0x110000) : DOk n (dS l) := ⟨by
  show (mkS l).cps.all _ = true
  simpa using h, Nat.zero_le _⟩
theorem dok_all {n : Nat} : ∀ {ds : List PyData}, (∀ d ∈ ds, DOk n d) → PyData.canLayAll0 ds = true ∧ PyData.depthAll ds ≤ n
  | [], _ => ⟨rfl, Nat.zero_le _⟩
  | d :: ds, h => by
    obtain ⟨h1, h2⟩ := h d (.head _)
    obtain ⟨h3, h4⟩ := dok_all fun e he => h e (.tail _ he)
    refine ⟨by simp only [PyData.canLayAll0, h1, h3, Bool.and_self], by simp only [PyData.depthAll]; lia⟩
theorem dok_list {n : Nat} {ds : List PyData} (h : ∀ d ∈ ds, DOk n d) : DOk (n + 1) (.list ds) := by
  obtain ⟨h1, h2⟩ := dok_all h
  exact ⟨by simpa only [PyData.canLay0] using h1, by simp only [PyData.depth]; lia⟩
theorem dok_strs {n : Nat} {ws : List (List Nat)} (h : ∀ w ∈ ws, ∀ c ∈ w, c < 0x110000) : DOk (n + 1) (dSs ws) := dok_list fun d hd => by
  obtain ⟨w, hw, rfl⟩ := List.mem_map.mp hd
  exact dok_str (h w hw)
theorem dok_ints {n : Nat} {l : List Int} : DOk (n + 1) (dIs l) := dok_list fun d hd => by
  obtain ⟨w, hw, rfl⟩ := List.mem_map.mp hd
  exact dok_int
theorem DOk.shaped {n : Nat} {d : PyData} (h : DOk n d) (hn : n ≤ 64) : SeqAt.shaped d = true := by
  unfold SeqAt.shaped
  rw [h.1, decide_eq_true (Nat.le_trans h.2 hn)]; rfl
theorem eqv_str {l m : List Nat} : PyData.eqv (dS l) (dS m) = decide (l = m) := by
  simp only [PyData.eqv]; exact mkS_eq l m
theorem eqv_int {i j : Int} : PyData.eqv (.int i) (.int j) = decide (i = j) := by
  simp only [PyData.eqv]; rfl
theorem eqv_cons {x y : PyData} {xs ys : List PyData} : PyData.eqv (.list (x :: xs)) (.list (y :: ys)) = (PyData.eqv x y && PyData.eqv (.list xs) (.list ys)) := by simp only [PyData.eqv, PyData.eqvAll]
theorem eqv_nil : PyData.eqv (.list []) (.list []) = true := by simp only [PyData.eqv, PyData.eqvAll]
theorem eqv_cn {x : PyData} {xs : List PyData} : PyData.eqv (.list (x :: xs)) (.list []) = false := by simp only [PyData.eqv, PyData.eqvAll]
theorem eqv_nc {x : PyData} {xs : List PyData} : PyData.eqv (.list []) (.list (x :: xs)) = false := by simp only [PyData.eqv, PyData.eqvAll]
theorem eqv_strs : ∀ ws us : List (List Nat), PyData.eqv (dSs ws) (dSs us) = decide (ws = us)
  | [], [] => by rw [decide_eq_true rfl]; exact eqv_nil
  | [], u :: us => by rw [decide_eq_false (by simp)]; exact eqv_nc
  | w :: ws, [] => by rw [decide_eq_false (by simp)]; exact eqv_cn
  | w :: ws, u :: us => by
    show PyData.eqv (.list (dS w :: ws.map dS)) (.list (dS u :: us.map dS)) = _
    rw [eqv_cons, eqv_str, show PyData.eqv (.list (ws.map dS)) (.list (us.map dS)) = decide (ws = us) from eqv_strs ws us]
    by_cases h1 : w = u <;> by_cases h2 : ws = us <;> simp [h1, h2]
theorem eqv_ints : ∀ ws us : List Int, PyData.eqv (dIs ws) (dIs us) = decide (ws = us)
  | [], [] => by rw [decide_eq_true rfl]; exact eqv_nil
  | [], u :: us => by rw [decide_eq_false (by simp)]; exact eqv_nc
  | w :: ws, [] => by rw [decide_eq_false (by simp)]; exact eqv_cn
  | w :: ws, u :: us => by
    show PyData.eqv (.list (.int w :: ws.map PyData.int)) (.list (.int u :: us.map PyData.int)) = _
    rw [eqv_cons, eqv_int, show PyData.eqv (.list (ws.map PyData.int)) (.list (us.map PyData.int)) = decide (ws = us) from eqv_ints ws us]
    by_cases h1 : w = u <;> by_cases h2 : ws = us <;> simp [h1, h2]
theorem eqv_empty (ws : List (List Nat)) : PyData.eqv (dSs ws) (.list []) = decide (ws = []) := eqv_strs ws []
theorem Room.line {A : Around} {n : Nat} (r : Room A n) : A.units + 64 < cLine := by have := r.units; unfold cLine; lia
theorem rl_up {n : Int} : rangeLen 0 n 1 = n.toNat := by
  unfold rangeLen Builtin.Range.rangeSize
  by_cases h : (0 : Int) < n
  · simp only [h, if_true, show (1 : Int) > 0 by decide]; rw [Int.ediv_one]; congr 1; lia
  · simp only [h, if_false, show (1 : Int) > 0 by decide, if_true]; lia
theorem rl_down {n : Int} : rangeLen n 0 (-1) = n.toNat := by
  unfold rangeLen Builtin.Range.rangeSize
  by_cases h : n > 0
  · simp only [h, if_true, show ¬ ((-1 : Int) > 0) by decide, if_false]; rw [show (- -1 : Int) = 1 by decide, Int.ediv_one]; congr 1; lia
  · simp only [h, if_false, show ¬ ((-1 : Int) > 0) by decide]; lia
theorem range_some {n : Int} {i : Nat} {H : AH} (h : (i : Int) < n) : rangeItem 0 n 1 i H (some (.int i)) := by
  show _ = _
  rw [rl_up, if_pos (by lia)]; show some (V.int _) = some (V.int _); congr 2; lia
theorem range_none {n : Int} {i : Nat} {H : AH} (h : n ≤ (i : Int)) : rangeItem 0 n 1 i H none := by
  show _ = _
  rw [rl_up, if_neg (by lia)]
theorem down_some {n : Int} {i : Nat} {H : AH} (h : (i : Int) < n) : rangeItem n 0 (-1) i H (some (.int (n - i))) := by
  show _ = _
  rw [rl_down, if_pos (by lia)]; show some (V.int _) = some (V.int _); congr 2; lia
theorem down_none {n : Int} {i : Nat} {H : AH} (h : n ≤ (i : Int)) : rangeItem n 0 (-1) i H none := by
  show _ = _
  rw [rl_down, if_neg (by lia)]
end
noncomputable section
/-- letters are taken in while the state is too low -/
noncomputable def takeG (low : Nat) : Nat → List Nat → Nat × List Nat
  | s, [] => (s, [])
  | s, d :: ds => if low ≤ s then (s, d :: ds) else takeG low (16 * s + d) ds
theorem takeG_nil {low s : Nat} : takeG low s [] = (s, []) := rfl
theorem takeG_stop {low s : Nat} {ds : List Nat} (h : low ≤ s) : takeG low s ds = (s, ds) := by
  cases ds with
  | nil => rfl
  | cons d ds => rw [takeG, if_pos h]
theorem takeG_go {low s d : Nat} {ds : List Nat} (h : ¬ low ≤ s) : takeG low s (d :: ds) = takeG low (16 * s + d) ds := by rw [takeG, if_neg h]
noncomputable abbrev ltV (ds : List Nat) : List V := strVs (ds.map fun d => [65 + d])
section
variable {C : Cfg} {a : Ad} {A : Around} {H H' : AH} {Q : V → AH → Prop}
inductive TkO (low : Nat) (s' : Nat) (ds' : List Nat) (L : Addr) (x : Addr) (K : AO → AH) (i : Nat) (H₁ : AH) : Prop
  | mk (h1 : i ≤ 99) (z : Nat) (l : List Nat) (o : Option V) (h2 : takeG low z l = (s', ds')) (h3 : l.length + i ≤ 90) (h4 : (∀ e ∈ l, e < 16)) (h5 : H₁ = (L, AO.ns ["state", "low", "line", "turn"] [some (.int z), some (.int low), some (.ref x), o]) :: K (.list (ltV l))) : TkO low s' ds' L x K i H₁
theorem sp_taken {x dx pb : Addr} {n : Int} {fp : V} {low s s' : Nat} {ds ds' : List Nat} {K : AO → AH} (W : W3 C a) (hr : Room A 3) (hk : Hole pb (.list (ltV ds)) H K) (hx : ∀ u, (x, AO.obj (instObj a.cls dx)) ∈ K u) (hd : ∀ u, (dx, AO.attrs (netA n fp pb)) ∈ K u)
    (hl : ds.length ≤ 90) (hds : ∀ e ∈ ds, e < 16) (hlow : low < 2 ^ 1000) (ht : takeG low s ds = (s', ds')) (q : Q (.int s') (K (.list (ltV ds')))) : WPC C A (.ref a.taken) [.int s, .int low, .ref x] Q H := by
  have G := W.G
  obtain ⟨cd, hF⟩ := W.taken
  have e := hk.eq
  subst e
  refine call_ok ok_taken G (fnAt_of_base hF) hr rfl rfl (by walk_at "init") rfl rfl fun L cd A' env hr' hD FE he => ?_
  have hA := hr'.hd
  repeat walk_at "s"
  refine wp1_For (wpi_Call ?_)
  repeat walk_at "s"
  refine ci_range1 hA (by decide) ?_
  refine ⟨TkO low s' ds' L x K, 99, ?_, ?_⟩
  · exact ⟨by decide, s, ds, none, ht, by lia, hds, rfl⟩
  · rintro i H₁ ⟨hi, z, l, o, hg, hli, hlet, rfl⟩
    left
    have hlt : i < 99 := by lia
    refine ⟨.int i, hlt, range_some (by lia), ?_⟩
    repeat walk_at "s"
    refine ⟨fun hz => ?_, fun hz => ?_⟩
    · refine ⟨fun _ => ?_, fun h => nomatch h⟩
      repeat walk_at "s"
      have hz' : low ≤ z := by simpa using hz
      rw [takeG_stop hz'] at hg
      simp only [Prod.mk.injEq] at hg
      obtain ⟨rfl, rfl⟩ := hg
      exact ⟨_, .drop (.refl _), q⟩
    · have hz' : ¬ low ≤ z := by simpa using hz
      repeat walk_at "s"
      refine ga_pb W (.tail _ (hx _)) (.tail _ (hd _)) ?_
      repeat walk_at "s"
      intro el
      refine op_eq_data (dr_strs (.tail _ (.tail _ (hk.mem _)))) (dr_list (.head _) ds_nil) ((dok_strs (n := 0) ?_).shaped (by decide)) (by decide +kernel) (hr'.line) ?_
      · intro w hw c hc
        obtain ⟨d, hd', rfl⟩ := List.mem_map.mp hw
        have := hlet d hd'
        simp at hc; lia
      rw [eqv_empty]
      repeat walk_at "s"
      refine ⟨fun he => ?_, fun he => ?_⟩
      · refine ⟨fun _ => ?_, fun h => nomatch h⟩
        have he' : l = [] := by simpa using he
        subst he'
        rw [takeG_nil] at hg
        simp only [Prod.mk.injEq] at hg
        obtain ⟨rfl, rfl⟩ := hg
        repeat walk_at "s"
        exact ⟨_, .drop (.drop (.refl _)), q⟩
      · repeat walk_at "s"
        refine ⟨fun h => (nomatch h), fun _ => ?_⟩
        have he' : l ≠ [] := by simpa using he
        match l, he' with
        | d :: l, _ =>
        rw [takeG_go hz'] at hg
        refine WP.sub (.drop (.refl _)) ?_
        repeat walk_at "s"
        refine op_mul_int (mulOk (k := 10) (l := 1000) (by decide) (by rw [Int.natAbs_natCast]; lia) (by decide)) ?_
        repeat walk_at "s"
        refine gm_get W (.tail _ (hx _)) (.tail _ (hd _)) ?_
        repeat walk_at "s"
        refine sp_get_pb W (hr'.mono (by decide)) (.tail _ (hx _)) (.tail _ (hd _)) (.tail ((hk.upd _ (.list (ltV l))))) (by simp at hli ⊢; lia) ?_
        repeat walk_at "s"
        refine c_ord ?_
        repeat walk_at "s"
        have e1 : (16 : Int) * (z : Int) + ((65 + d : Nat) : Int) - 65 = ((16 * z + d : Nat) : Int) := by push_cast; lia
        rw [e1]
        exact ⟨by lia, 16 * z + d, l, _, hg, by simp at hli; lia, fun e he => hlet e (.tail _ he), rfl⟩
end
end
noncomputable section
-- slices
theorem pick_run {α : Type} (l : List α) (a : Nat) : ∀ k, a + k ≤ l.length → ((List.range k).map (a + ·)).filterMap (l[·]?) = (l.drop a).take k
  | 0, _ => by simp
  | k + 1, h => by
    rw [List.range_succ, List.map_append, List.filterMap_append, pick_run l a k (by omega), List.take_succ_eq_append_getElem (by simp; omega)]
    have : a + k < l.length := by omega
    simp [List.getElem?_eq_getElem this]
theorem pySlice_take {α : Type} (l : List α) (p : Nat) (h : p ≤ l.length) : pySlice l none (some p) none = l.take p := by
  unfold pySlice
  have e : sliceBounds none (some (p : Int)) none l.length = (((0 : Nat) : Int), ((p : Nat) : Int), (1 : Int)) := by
    simp only [sliceBounds, Option.getD_none, show (1 : Int) > 0 by decide, if_true]
    rw [if_neg (by omega)]
    refine Prod.ext rfl (Prod.ext ?_ rfl)
    show max 0 (min (p : Int) l.length) = p
    omega
  rw [e]
  dsimp only
  rw [sliceRange_one, pick_run l 0 (p - 0) (by omega)]; simp
theorem pySlice_drop {α : Type} (l : List α) (p : Nat) (h : p ≤ l.length) : pySlice l (some p) none none = l.drop p := by
  unfold pySlice
  have e : sliceBounds (some (p : Int)) none none l.length = (((p : Nat) : Int), ((l.length : Nat) : Int), (1 : Int)) := by
    simp only [sliceBounds, Option.getD_none, show (1 : Int) > 0 by decide, if_true]
    rw [if_neg (by omega)]
    refine Prod.ext ?_ rfl
    show max 0 (min (p : Int) l.length) = p
    omega
  rw [e]
  dsimp only
  rw [sliceRange_one, pick_run l p (l.length - p) (by omega)]
  exact List.take_of_length_le (by simp)
theorem pySlice_mid {α : Type} (l : List α) (p q : Nat) (h : p ≤ q) : pySlice l (some p) (some q) none = (l.take q).drop p := by
  unfold pySlice
  have e : sliceBounds (some (p : Int)) (some (q : Int)) none l.length = (((min p l.length : Nat) : Int), ((min q l.length : Nat) : Int), (1 : Int)) := by
    simp only [sliceBounds, Option.getD_none, show (1 : Int) > 0 by decide, if_true]
    rw [if_neg (by omega), if_neg (by omega)]
    refine Prod.ext ?_ (Prod.ext ?_ rfl)
    · show max 0 (min (p : Int) l.length) = ((min p l.length : Nat) : Int)
      omega
    · show max 0 (min (q : Int) l.length) = ((min q l.length : Nat) : Int)
      omega
  rw [e]
  dsimp only
  rw [sliceRange_one, pick_run l _ _ (by omega)]
  apply List.ext_getElem?
  intro i
  simp only [List.getElem?_take, List.getElem?_drop]
  by_cases h1 : i < min q l.length - min p l.length
  · rw [if_pos h1, if_pos (by omega)]; congr 1; omega
  · rw [if_neg h1]
    by_cases h2 : p + i < q
    · rw [if_pos h2]; symm; rw [List.getElem?_eq_none_iff]; omega
    · rw [if_neg h2]
theorem pySlice_rev {α : Type} (l : List α) : pySlice l none none (some (-1)) = l.reverse := by
  unfold pySlice
  have e : sliceBounds none none (some (-1)) l.length = ((l.length : Int) - 1, -1, -1) := by
    simp only [sliceBounds, Option.getD_some, show ¬ ((-1 : Int) > 0) by decide, if_false]
  rw [e]
  dsimp only
  have e2 : sliceRange ((l.length : Int) - 1) (-1) (-1) = (List.range l.length).map (fun k => l.length - 1 - k) := by
    unfold sliceRange
    have : (if (l.length : Int) - 1 > -1 then (((l.length : Int) - 1) - (-1) - (-1) - 1) / (- -1) else 0) = (l.length : Int) := by
      by_cases h : (l.length : Int) - 1 > -1
      · rw [if_pos h, show (- -1 : Int) = 1 by decide, Int.ediv_one]; omega
      · rw [if_neg h]; omega
    simp only [show ¬ ((-1 : Int) > 0) by decide, if_false, this, Int.toNat_natCast]
    refine List.map_congr_left fun k hk => ?_
    rw [List.mem_range] at hk
    omega
  rw [e2, List.filterMap_map]
  have key : ∀ (m : List α) (f : Nat → Nat) (k : Nat), k ≤ m.length → (∀ i, i < k → l[f i]? = m[i]?) → (List.range k).filterMap ((l[·]?) ∘ f) = m.take k := by
    intro m f k
    induction k with
    | zero => intro _ _; simp
    | succ k ih =>
      intro hk hf
      rw [List.range_succ, List.filterMap_append, ih (by omega) (fun i hi => hf i (by omega)), List.take_succ_eq_append_getElem (by omega)]
      have h1 := hf k (by omega)
      rw [List.getElem?_eq_getElem (l := m) (by omega)] at h1
      simp [h1]
  rw [key l.reverse _ l.length (by simp) fun i hi => by rw [List.getElem?_reverse hi]]
  exact List.take_of_length_le (by simp)
theorem strVs_take (ws : List (List Nat)) (n : Nat) : (strVs ws).take n = strVs (ws.take n) := by simp

section
variable {C : Cfg} {gl : List (Str × V)} {A : Around} {env : Env} {pos tpos : Pos} {L : Addr} {ln gn : List Str} {cn : List (Str × Addr)} {H H' : AH} {Q : V → AH → Prop} {QF : Fl → AH → Prop} {QU : Unit → AH → Prop}
theorem c_lcountW {l : Addr} {ws : List (List Nat)} {w : List Nat} (hl : (l, AO.list (strVs ws)) ∈ H) (q : Q (.int (ws.count w : Nat)) H) : WPC C A (.bi "list.count") [.ref l, .str (mkS w)] Q H := by
  have e : strVs ws = (ws.map mkS).map V.str := by simp
  rw [e] at hl
  refine c_lcount hl ?_
  have e2 : (ws.map mkS).countP (· == mkS w) = ws.count w := by
    rw [List.countP_map, List.count_eq_countP]
    refine List.countP_congr fun x _ => ?_
    simp only [Function.comp]
    rw [mkS_eq]; simp
  rw [e2]; exact q
theorem wp1_Assign_swapE {elts : List Expr} {k : Nat} {value : Expr} {names : List Str} (hA : A.handled = none)
    (hw : swappedStores [.Tuple elts k tpos] value env = pure (some names))
    (h : WP C A (VRel C.X) (eval value env) (fun x H₁ => ∃ vs, x = .tup vs ∧ names.length = vs.length ∧ WPAs C A (names.reverse.map fun n => bindName env n) vs.reverse (fun _ H₂ => QF .next H₂) H₁) H)
    (hs : swapsWithSole [.Tuple elts k tpos] value pos.line env = pure false := by with_unfolding_all rfl) :
    WP1 C A env (.Assign [.Tuple elts k tpos] value pos) QF H := fun s R => by
  refine Assign_Tuple_swapped (names := names) (wpAny_mono (h s R) (fun v s₁ ⟨x, H₁, ⟨vs, hx, hn, q⟩, rv, R₁, k⟩ => ?_) fun _ _ x => x) hs hw
  subst hx
  simp only [VRel] at rv
  obtain ⟨a, items, rfl, hX, ht, rvs⟩ := rv
  have hl := rvs.length
  have hsz : names.length = items.size := by rw [hn, ← hl]; simp
  rw [hsz]
  refine wpAny_unpackItems_tuple hA ht fun h' he => ?_
  have ext : ∀ b o, s₁.heap.get? b = some o → h'.get? b = some o := fun b o e => he b o (Nat.ne_of_lt (Heap.lt_size e)) e
  have rev : VsRel C.X h' vs.reverse items.toList.reverse := by
    refine VsRel.of_get (by simp [hl]) fun i u hu => ?_
    have hi : i < vs.length := by
      have := (List.getElem?_eq_some_iff.mp hu).1; simpa using this
    rw [List.getElem?_reverse hi] at hu
    obtain ⟨v, hv, rv⟩ := (rvs.fz (fz_of_ext ext)).get hu
    refine ⟨v, ?_, rv⟩
    rw [List.getElem?_reverse (by rw [hl]; exact hi), hl]; exact hv
  exact wpAny_mono (q _ { s₁ with heap := h' } rev (R₁.ext (t := s₁.toks) ext)) (fun _ _ p148 => Post.el p148 fun _ H₂ q₂ _ R₂ k₂ => ⟨.next, H₂, q₂, rfl, R₂, (k.trans (kept_of_ext (t := s₁.toks) ext)).trans k₂⟩) fun _ _ x => x
theorem wp1_swap2 {a b : Str} {pa pb p p' spos : Pos} {k k' : Nat} {x y : Expr} (FE : FEnv env L ln cn gn) (hA : A.handled = none) (ha : a ∈ ln) (hb : b ∈ ln)
    (h : WP C A (VRel C.X) (eval x env) (fun u H₁ => WP C A (VRel C.X) (eval y env) (fun v H₂ => Op1 C A URel (storeName env b) v (fun _ H₃ => Op1 C A URel (storeName env a) u (fun _ H₄ => QF .next H₄) H₃) H₂) H₁) H)
    (hab : (a == b) = false := by decide +kernel) (h1 : (pb.line == pa.line) = true := by decide +kernel) (hx : notStar x = true := by rfl) (hy : notStar y = true := by rfl)
    (hf : ([x, y].all (foldedForSure 8)) = false := by decide +kernel) (hc : ([x, y].all (constantsAlone 8)) = false := by decide +kernel)
    (he : starEach [x, y] env = (false, eval x env) :: starEach [y] env := by with_unfolding_all rfl) (he2 : starEach [y] env = (false, eval y env) :: starEach [] env := by with_unfolding_all rfl)
    (hs : swapsWithSole [.Tuple [.Name a pa, .Name b pb] k p] (.Tuple [x, y] k' p') spos.line env = pure false := by with_unfolding_all rfl) :
    WP1 C A env (.Assign [.Tuple [.Name a pa, .Name b pb] k p] (.Tuple [x, y] k' p') spos) QF H := by
  refine wp1_Assign_swapE hA (swap2 FE ha hb hab h1 hx hy hf hc) (wp_Tuple (wpl_cons (fun s R => wpAny_mono (h s R) (fun _ _ p149 => Post.el p149 fun u H₁ q ru R₁ k₁ => ⟨u, H₁, wpl_cons (fun s R => wpAny_mono (q s R) (fun _ _ p150 => Post.el p150 fun v H₂ q₂ rv R₂ k₂ => ⟨v, H₂, wpl_nil (fewOf ⟨_, rfl, rfl, ?_⟩), rv, R₂, k₂⟩) fun _ _ e => e) he2, ru, R₁, k₁⟩) fun _ _ e => e) he)) hs
  exact wpas_cons (op_bind (fun w s rw R => wpAny_mono (q₂ w s rw R) (fun _ _ p151 => Post.el p151 fun t H₃ q₃ rt R₃ k₃ => ⟨t, H₃, wpas_cons (op_bind (fun w s rw R => wpAny_mono (q₃ w s rw R) (fun _ _ p152 => Post.el p152 fun t H₄ q₄ rt R₄ k₄ => ⟨t, H₄, wpas_nil q₄, rt, R₄, k₄⟩) fun _ _ e => e)), rt, R₃, k₃⟩) fun _ _ e => e))
/-- a tuple with a name that is not a plain local: no swapping -/
theorem filt_lt {α β : Type} {f : α → Option β} {l : List α} {x : α} (hx : x ∈ l) (h : f x = none) : (l.filterMap f).length < l.length := by
  induction l with
  | nil => cases hx
  | cons y l ih =>
    rcases List.mem_cons.mp hx with rfl | hx
    · rw [List.filterMap_cons, h]; exact Nat.lt_succ_of_le (List.length_filterMap_le _ _)
    · have := ih hx
      rw [List.filterMap_cons]
      cases f y with
      | none => show (l.filterMap f).length < l.length + 1; omega
      | some z => show (l.filterMap f).length + 1 < l.length + 1; omega
theorem noswap {a : Str} {c : Addr} {pa p p' : Pos} {k k' : Nat} {ts vs : List Expr} (FE : FEnv env L ln cn gn) (hm : (a, c) ∈ cn) (ht : Expr.Name a pa ∈ ts) :
    swappedStores [.Tuple ts k p] (.Tuple vs k' p') env = pure none := by
  have e1 : (env.kindOf a == some .local) = false := by
    rcases (FE.hc _ hm).1 with h | h <;> rw [h] <;> rfl
  unfold swappedStores
  dsimp only
  split
  · rfl
  split
  · rfl
  generalize hL : List.filterMap _ ts = l
  have : l.length < ts.length := by rw [← hL]; exact filt_lt ht (by simp [e1])
  rw [if_pos (by simp; left; omega)]
theorem Op1.sub {α β : Type} {T : Heap → β → α → Prop} {f : Value → Sem α} {x : V} {Q : β → AH → Prop} (y : Sub H' H) (h : Op1 C A T f x Q H') : Op1 C A T f x Q H := fun v s rv R =>
  wpAny_mono (h v s rv (R.sub y)) (fun _ _ p153 => Post.el p153 fun u H₁ q r R' k => ⟨u, H₁, q, r, R', fun b o n e => k b o (fun h => n (y.kmem h)) e⟩) fun _ _ e => e
theorem Op2.sub {α β : Type} {T : Heap → β → α → Prop} {f : Value → Value → Sem α} {x z : V} {Q : β → AH → Prop} (y : Sub H' H) (h : Op2 C A T f x z Q H') : Op2 C A T f x z Q H := fun v w s rv rw R =>
  wpAny_mono (h v w s rv rw (R.sub y)) (fun _ _ p154 => Post.el p154 fun u H₁ q r R' k => ⟨u, H₁, q, r, R', fun b o n e => k b o (fun h => n (y.kmem h)) e⟩) fun _ _ e => e
theorem wp1_mid {st : Stmt} {rest : List Stmt} (I : AH → Prop) (h : WP1 C A env st (fun f H₁ => f = .next ∧ I H₁) H) (k : ∀ H₁, I H₁ → WPS C A env rest QF H₁) : WP1 C A env st (Behind C A env rest QF) H :=
  fun s R => wpAny_mono (h s R) (fun _ _ p155 => Post.el p155 fun x H₁ p156 rx R₁ kp => p156.elim fun hx q => ⟨x, H₁, by subst hx; exact k H₁ q, rx, R₁, kp⟩) fun _ _ e => e
end
end
noncomputable section
/-- a table's step down: how many lesser numbers tell the same word -/
noncomputable def rk (tb : List (List Nat)) (p : Nat) : Nat := (tb.take p).count (tb.getD p [])
noncomputable def dn (tb : List (List Nat)) (s : Nat) : Nat := tb.count (tb.getD (s % tb.length) []) * (s / tb.length) + rk tb (s % tb.length)
noncomputable def outG (low : Nat) (tb : List (List Nat)) : Nat → Nat → List Nat → Nat × List (List Nat) × List Nat
  | 0, s, ds => (s, [], ds)
  | k + 1, s, ds =>
    if (takeG low s ds).1 < low then ((takeG low s ds).1, [], (takeG low s ds).2) else
      ((outG low tb k (dn tb (takeG low s ds).1) (takeG low s ds).2).1, tb.getD ((takeG low s ds).1 % tb.length) [] :: (outG low tb k (dn tb (takeG low s ds).1) (takeG low s ds).2).2.1, (outG low tb k (dn tb (takeG low s ds).1) (takeG low s ds).2).2.2)
theorem takeG_lt {low B : Nat} (hB : 16 * low ≤ B) : ∀ {s : Nat} {ds : List Nat}, s < B → (∀ d ∈ ds, d < 16) → (takeG low s ds).1 < B ∧ (takeG low s ds).2.length ≤ ds.length ∧ ∀ d ∈ (takeG low s ds).2, d < 16
  | s, [], h, h2 => ⟨h, Nat.le_refl _, h2⟩
  | s, d :: ds, h, h2 => by
    by_cases hl : low ≤ s
    · rw [takeG_stop hl]; exact ⟨h, Nat.le_refl _, h2⟩
    · rw [takeG_go hl]
      have hd := h2 d (.head _)
      obtain ⟨h3, h4, h5⟩ := takeG_lt hB (s := 16 * s + d) (ds := ds) (by lia) fun e he => h2 e (.tail _ he)
      exact ⟨h3, by simp; lia, h5⟩
theorem dn_le {tb : List (List Nat)} (h : tb ≠ []) (s : Nat) : dn tb s ≤ s := by
  unfold dn rk
  have h1 : tb.count (tb.getD (s % tb.length) []) ≤ tb.length := List.count_le_length
  have h2 : (tb.take (s % tb.length)).count (tb.getD (s % tb.length) []) ≤ s % tb.length := Nat.le_trans List.count_le_length (by simp; lia)
  have h3 := Nat.div_add_mod s tb.length
  have h4 := Nat.mul_le_mul_right (s / tb.length) h1
  lia
/-- the tables of code that the closures want -/
structure Tabs (a : Ad) (H : AH) : Prop where
  r : (a.pReader, AO.tab "_law_reader.<locals>.<lambda>") ∈ H
  i : (a.pI2d, AO.tab "_int2digits.<locals>.inner") ∈ H
  d : (a.pD2i, AO.tab "_digits2int.<locals>.inner") ∈ H
theorem Tabs.cons {a : Ad} {H : AH} (T : Tabs a H) (p : Addr × AO) : Tabs a (p :: H) := ⟨.tail _ T.r, .tail _ T.i, .tail _ T.d⟩
section
variable {C : Cfg} {a : Ad} {A : Around} {H H' : AH} {Q : V → AH → Prop}
inductive OuO (m : Nat) (low : Nat) (tb : List (List Nat)) (s' : Nat) (ds' : List Nat) (told : List (List Nat)) (sx : Addr) (a : Ad) (sdx : Addr) (sfp : V) (spb : Addr) (L : Addr) (x : Addr) (tl : Addr) (K : AO → AH) (i : Nat) (H₁ : AH) : Prop
  | mk (h1 : i ≤ m) (z : Nat) (l : List Nat) (acc rest : List (List Nat)) (o1 o2 o3 : Option V) (h2 : outG low tb (m - i) z l = (s', rest, ds')) (h3 : acc ++ rest = told) (h4 : acc.length ≤ i) (h5 : z < 2 ^ 904) (h6 : l.length ≤ 90) (h7 : (∀ e ∈ l, e < 16)) (h8 : H₁ = (sx, .obj (instObj a.cls sdx)) :: (sdx, .attrs (netA 1 sfp spb)) :: (spb, .list (strVs acc)) :: (L, AO.ns ["low", "line", "table", "most", "state", "said", "turn", "high", "place"] [some (.int low), some (.ref x), some (.ref tl), some (.int m), some (.int z), some (.ref sx), o1, o2, o3]) :: K (.list (ltV l))) : OuO m low tb s' ds' told sx a sdx sfp spb L x tl K i H₁
theorem sp_out {x dx pb tl : Addr} {n : Int} {fp : V} {low m s' : Nat} {tb told : List (List Nat)} {ds ds' : List Nat} {K : AO → AH} (W : W3 C a) (hr : Room A 25) (hk : Hole pb (.list (ltV ds)) H K) (hx : ∀ u, (x, AO.obj (instObj a.cls dx)) ∈ K u) (hd : ∀ u, (dx, AO.attrs (netA n fp pb)) ∈ K u)
    (htl : ∀ u, (tl, AO.list (strVs tb)) ∈ K u) (hT : ∀ u, Tabs a (K u)) (hl : ds.length ≤ 90) (hds : ∀ e ∈ ds, e < 16) (hlow : low < 2 ^ 900) (htb : tb ≠ []) (htz : tb.length ≤ 100) (hm : m ≤ 1000) (ht : outG low tb m 0 ds = (s', told, ds'))
    (q : ∀ sx sdx spb sfp, Q (.tup [.int s', .ref sx]) ((sx, .obj (instObj a.cls sdx)) :: (sdx, .attrs (netA 1 sfp spb)) :: (spb, .list (strVs told)) :: K (.list (ltV ds')))) : WPC C A (.ref a.out) [.int low, .ref x, .ref tl, .int m] Q H := by
  have G := W.G
  obtain ⟨cd, hF⟩ := W.out
  have e := hk.eq
  subst e
  refine call_ok ok_out G (fnAt_of_base hF) hr rfl rfl (by walk_at "init") rfl rfl fun L cd A' env hr' hD FE he => ?_
  have hA := hr'.hd
  obtain ⟨t1, t2, t3⟩ := hT (.list (ltV ds))
  refine wps_cons ?_
  refine wp1_swap2 FE hA (by walk_at "mem") (by walk_at "mem") ?_
  repeat walk_at "s"
  intro el
  repeat walk_at "s"
  refine sp_line W (hr'.mono (by decide)) (by walk_at "mem") (by walk_at "mem") (by simp) ?_
  intro sx sdx spb sfp
  repeat walk_at "s"
  refine WP.sub (H' := (sx, .obj (instObj a.cls sdx)) :: (sdx, .attrs (netA 1 sfp spb)) :: (spb, .list []) :: (L, _) :: K _) (.pick .head (.pick .head (.pick .head (.drop (.refl _))))) ?_
  refine wp1_For (wpi_Call ?_)
  repeat walk_at "s"
  refine ci_range1 hA (by rw [Int.natAbs_natCast]; lia) ?_
  have hB : 16 * low ≤ 2 ^ 904 := by have : (2 : Nat) ^ 904 = 16 * 2 ^ 900 := by rw [show 904 = 4 + 900 by rfl, Nat.pow_add]
                                     lia
  refine ⟨OuO m low tb s' ds' told sx a sdx sfp spb L x tl K, m, ?_, ?_⟩
  · exact ⟨Nat.zero_le _, 0, ds, [], told, none, none, none, ht, rfl, Nat.le_refl _, Nat.two_pow_pos _, hl, hds, rfl⟩
  · rintro i H₁ ⟨hi, z, l, acc, rest, o1, o2, o3, hg, hacc, hal, hz, hll, hlds, rfl⟩
    by_cases hlt : i < m
    · left
      refine ⟨.int i, hlt, range_some (by lia), ?_⟩
      have hmi : m - i = (m - (i + 1)) + 1 := by lia
      rw [hmi, outG] at hg
      have tk := takeG_lt hB hz hlds
      generalize htk : takeG low z l = tt at hg tk
      obtain ⟨z2, l2⟩ := tt
      simp only at hg tk
      obtain ⟨hz2, hl2, hlds2⟩ := tk
      obtain ⟨t1, t2, t3⟩ := hT (.list (ltV l2))
      have htl2 := htl (.list (ltV l2))
      repeat walk_at "s"
      refine sp_taken (K := fun u => (sx, .obj (instObj a.cls sdx)) :: (sdx, .attrs (netA 1 sfp spb)) :: (spb, .list (strVs acc)) :: (L, _) :: K u) W (hr'.mono (by decide)) (.tail (.tail (.tail (.tail (hk.re _))))) (fun u => .tail _ (.tail _ (.tail _ (.tail _ (hx u))))) (fun u => .tail _ (.tail _ (.tail _ (.tail _ (hd u))))) hll hlds (Nat.lt_trans hlow (Nat.pow_lt_pow_right (by decide) (by decide))) htk ?_
      repeat walk_at "s"
      refine ⟨fun h => ?_, fun h => ?_⟩
      · have h' : z2 < low := by simpa using h
        rw [if_pos h'] at hg
        simp only [Prod.mk.injEq] at hg
        obtain ⟨rfl, rfl, rfl⟩ := hg
        rw [List.append_nil] at hacc
        subst hacc
        repeat walk_at "s"
        exact ⟨_, .pick .head (.pick .head (.pick .head (.drop (.refl _)))), q _ _ _ _⟩
      · have h' : ¬ z2 < low := by simpa using h
        rw [if_neg h'] at hg
        repeat walk_at "s"
        refine wp1_Assign ?_
        repeat walk_at "s"
        refine c_len_list (by walk_at "mem") (by simp; lia) ?_
        repeat walk_at "s"
        have hp904 : (2 : Nat) ^ 904 < 2 ^ 3000 := Nat.pow_lt_pow_right (by decide) (by decide)
        have hp3 : 100 < (2 : Nat) ^ 3000 := Nat.lt_of_lt_of_le (by decide : 100 < 2 ^ 7) (Nat.pow_le_pow_right (by decide) (by decide))
        have hpos : 0 < tb.length := List.length_pos_iff.mpr htb
        rw [List.length_map]
        refine sp_int_divmod W (by walk_at "mem") (by walk_at "mem") (hr'.mono (by decide)) hpos (by lia) (by lia) ?_
        have hmod : z2 % tb.length < tb.length := Nat.mod_lt _ hpos
        have hget : (strVs tb)[(((z2 % tb.length : Nat) : Int)).toNat]? = some (.str (mkS (tb.getD (z2 % tb.length) []))) := by
          rw [Int.toNat_natCast, List.getElem?_map, List.getD_eq_getElem?_getD, List.getElem?_eq_getElem hmod]; rfl
        refine asg_Tuple hA (wpas_cons ?_)
        repeat walk_at "s"
        refine wpas_cons ?_
        repeat walk_at "s"
        refine wpas_nil ?_
        repeat walk_at "s"
        refine gm_push W (by walk_at "mem") (by walk_at "mem") ?_
        repeat walk_at "s"
        refine gi_list (by walk_at "mem") (by lia) hget (by simp; lia) ?_
        repeat walk_at "s"
        refine sp_push W (hr'.mono (by decide)) (by walk_at "mem") (by walk_at "mem") (by walk_at "upd") (by simp; lia) ?_
        repeat walk_at "s"
        refine wpm_lcount (by walk_at "mem") ?_
        repeat walk_at "s"
        refine gi_list (by walk_at "mem") (by lia) hget (by simp; lia) ?_
        repeat walk_at "s"
        refine c_lcountW (by walk_at "mem") ?_
        repeat walk_at "s"
        have hc : tb.count (tb.getD (z2 % tb.length) []) ≤ tb.length := List.count_le_length
        refine op_mul_int (mulOk (k := 8) (l := 904) (by rw [Int.natAbs_natCast]; lia) (by rw [Int.natAbs_natCast]; exact Nat.lt_of_le_of_lt (Nat.div_le_self _ _) hz2) (by decide)) ?_
        repeat walk_at "s"
        refine gs_list (by walk_at "mem") (by decide) (by simp; lia) ?_
        intro sl
        rw [pySlice_take _ _ (by simp; lia), strVs_take]
        repeat walk_at "s"
        refine wpm_lcount (by walk_at "mem") ?_
        repeat walk_at "s"
        refine gi_list (by walk_at "mem") (by lia) hget (by simp; lia) ?_
        repeat walk_at "s"
        refine c_lcountW (by walk_at "mem") ?_
        refine Op2.sub (.drop (.refl _)) ?_
        repeat walk_at "s"
        have e1 : ((tb.count (tb.getD (z2 % tb.length) []) : Nat) : Int) * ((z2 / tb.length : Nat) : Int) + (((tb.take (z2 % tb.length)).count (tb.getD (z2 % tb.length) []) : Nat) : Int) = ((dn tb z2 : Nat) : Int) := by
          unfold dn rk; push_cast; rfl
        rw [e1]
        generalize hr2 : outG low tb (m - (i + 1)) (dn tb z2) l2 = r2 at hg
        obtain ⟨r21, r22, r23⟩ := r2
        simp only [Prod.mk.injEq] at hg
        obtain ⟨rfl, rfl, rfl⟩ := hg
        refine ⟨hlt, dn tb z2, l2, acc ++ [tb.getD (z2 % tb.length) []], r22, some (.int i), some (.int (z2 / tb.length : Nat)), some (.int (z2 % tb.length : Nat)), hr2, by rw [← hacc]; simp, by simp; lia, Nat.lt_of_le_of_lt (dn_le htb z2) hz2, by lia, hlds2, ?_⟩
        simp only [strVs, List.map_append, List.map_cons, List.map_nil]
    · right
      have hi' : i = m := by lia
      subst hi'
      rw [Nat.sub_self, outG] at hg
      simp only [Prod.mk.injEq] at hg
      obtain ⟨rfl, rfl, rfl⟩ := hg
      rw [List.append_nil] at hacc
      subst hacc
      refine ⟨range_none (Int.le_refl _), ?_⟩
      repeat walk_at "s"
      exact ⟨_, .pick .head (.pick .head (.pick .head (.drop (.refl _)))), q _ _ _ _⟩
end
end
noncomputable section
noncomputable def putG (lim : Nat) : Nat → Nat → Nat × List Nat
  | 0, s => (s, [])
  | k + 1, s => if s < lim then (s, []) else ((putG lim k (s / 16)).1, s % 16 :: (putG lim k (s / 16)).2)
/-- the places of a word in a table -/
noncomputable def posns (tb : List (List Nat)) (w : List Nat) (n : Nat) : List Nat := (List.range n).filter fun k => decide (tb.getD k [] = w)
noncomputable def upT (tb : List (List Nat)) (w : List Nat) (s : Nat) : Nat := s / tb.count w * tb.length + (posns tb w tb.length).getD (s % tb.count w) 0
/-- the words, the last one first -/
noncomputable def inG (sc : Nat) (tb : List (List Nat)) : List (List Nat) → Nat → Nat × List Nat
  | [], s => (s, [])
  | w :: ws, s => ((inG sc tb ws (upT tb w (putG (16 * sc * tb.count w) 99 s).1)).1, (putG (16 * sc * tb.count w) 99 s).2 ++ (inG sc tb ws (upT tb w (putG (16 * sc * tb.count w) 99 s).1)).2)
theorem posns_succ (tb : List (List Nat)) (w : List Nat) (n : Nat) : posns tb w (n + 1) = posns tb w n ++ if tb.getD n [] = w then [n] else [] := by
  unfold posns
  rw [List.range_succ, List.filter_append, List.filter_cons, List.filter_nil]
  by_cases h : tb.getD n [] = w
  · rw [if_pos (by simpa using h), if_pos h]
  · rw [if_neg (by simpa using h), if_neg h]
theorem posns_len (tb : List (List Nat)) (w : List Nat) : ∀ n, n ≤ tb.length → (posns tb w n).length = (tb.take n).count w
  | 0, _ => by simp [posns]
  | n + 1, h => by
    rw [posns_succ, List.length_append, posns_len tb w n (by lia), List.take_succ_eq_append_getElem (by lia), List.count_append]
    have e : tb.getD n [] = tb[n] := by rw [List.getD_eq_getElem?_getD, List.getElem?_eq_getElem (by lia)]; rfl
    rw [e]
    by_cases hw : tb[n] = w
    · rw [if_pos hw, hw]; simp
    · rw [if_neg hw]; simp [hw]
theorem putG_fst_le (lim : Nat) : ∀ k s, (putG lim k s).1 ≤ s
  | 0, s => Nat.le_refl _
  | k + 1, s => by
    rw [putG]
    by_cases h : s < lim
    · rw [if_pos h]; exact Nat.le_refl _
    · rw [if_neg h]; exact Nat.le_trans (putG_fst_le lim k (s / 16)) (Nat.div_le_self _ _)
theorem putG_len (lim : Nat) : ∀ k s, (putG lim k s).2.length ≤ k ∧ ∀ d ∈ (putG lim k s).2, d < 16
  | 0, s => by simp [putG]
  | k + 1, s => by
    rw [putG]
    by_cases h : s < lim
    · rw [if_pos h]; simp
    · rw [if_neg h]
      obtain ⟨h1, h2⟩ := putG_len lim k (s / 16)
      refine ⟨by simp; lia, fun d hd => ?_⟩
      rcases List.mem_cons.mp hd with rfl | hd
      · exact Nat.mod_lt _ (by decide)
      · exact h2 d hd
theorem upT_lt {tb : List (List Nat)} {w : List Nat} {s e : Nat} (hw : w ∈ tb) (hs : s < 2 ^ e) (hl : tb.length ≤ 100) : upT tb w s < 2 ^ (e + 7) := by
  unfold upT
  have hc : 0 < tb.count w := List.count_pos_iff.mpr hw
  have hp : (posns tb w tb.length).getD (s % tb.count w) 0 < tb.length := by
    have hlen := posns_len tb w tb.length (Nat.le_refl _)
    rw [List.take_length] at hlen
    have hi : s % tb.count w < (posns tb w tb.length).length := by rw [hlen]; exact Nat.mod_lt _ hc
    rw [List.getD_eq_getElem?_getD, List.getElem?_eq_getElem hi]
    have := List.getElem_mem hi
    unfold posns at this
    have := (List.mem_filter.mp this).1
    exact List.mem_range.mp this
  have h1 : s / tb.count w ≤ s := Nat.div_le_self _ _
  have h2 := Nat.mul_le_mul_right tb.length (Nat.le_trans (Nat.add_le_add_right h1 1) hs)
  have h3 := Nat.mul_le_mul_left (2 ^ e) hl
  rw [Nat.pow_add]
  have h4 : (2 : Nat) ^ 7 = 128 := rfl
  rw [h4]
  rw [Nat.add_mul, Nat.one_mul] at h2
  have := Nat.two_pow_pos e
  lia
section
variable {C : Cfg} {a : Ad} {A : Around} {H H' : AH} {Q : V → AH → Prop}
inductive InO (ws : List (List Nat)) (sc : Nat) (tb : List (List Nat)) (s' : Nat) (ls' : List Nat) (lt : Addr) (c1 : Addr) (L : Addr) (tl : Addr) (x : Addr) (K : AO → AH) (i : Nat) (H₁ : AH) : Prop
  | mk (h1 : i ≤ ws.length) (z : Nat) (ls rest : List Nat) (oc : Option V) (o1 o2 o3 o4 o5 : Option V) (h2 : inG sc tb (ws.take (ws.length - i)).reverse z = (s', rest)) (h3 : ls ++ rest = ls') (h4 : ls.length ≤ 99 * i) (h5 : (∀ d ∈ ls, d < 16)) (h6 : z < 2 ^ (900 + 7 * i)) (h7 : H₁ = (lt, AO.list (natVs ls)) :: (c1, .cell oc) :: (L, AO.ns ["state", "scale", "table", "said", "letters", "size", "turn", "letter", "high", "rank"] [some (.int z), some (.int sc), some (.ref tl), some (.ref x), some (.ref lt), o1, o2, o3, o4, o5]) :: K (.list (strVs (ws.take (ws.length - i))))) : InO ws sc tb s' ls' lt c1 L tl x K i H₁
inductive InT (m : Nat) (lt : Addr) (ls : List Nat) (c1 : Addr) (oc : Option V) (L : Addr) (z : Nat) (sc : Nat) (tl : Addr) (x : Addr) (o3 : Option V) (o4 : Option V) (o5 : Option V) (K : AO → AH) (us : List (List Nat)) (w : List Nat) (j : Nat) (H₁ : AH) : Prop
  | mk (h1 : j ≤ m) (o : Option V) (h2 : H₁ = (lt, AO.list (natVs ls)) :: (c1, .cell oc) :: (L, AO.ns ["state", "scale", "table", "said", "letters", "size", "turn", "letter", "high", "rank"] [some (.int z), some (.int sc), some (.ref tl), some (.ref x), some (.ref lt), some (.int (m + 1)), o, o3, o4, o5]) :: K (.list (strVs (us.drop j ++ [w] ++ us.take j)))) : InT m lt ls c1 oc L z sc tl x o3 o4 o5 K us w j H₁
inductive InM (lt : Addr) (ls : List Nat) (lf : List Nat) (c1 : Addr) (w : List Nat) (L : Addr) (zf : Nat) (sc : Nat) (tl : Addr) (x : Addr) (j : Nat) (o4 : Option V) (o5 : Option V) (K : AO → AH) (us : List (List Nat)) (H₁ : AH) : Prop
  | mk (o o3 : Option V) (h1 : H₁ = (lt, AO.list (natVs (ls ++ lf))) :: (c1, .cell (some (.str (mkS w)))) :: (L, AO.ns ["state", "scale", "table", "said", "letters", "size", "turn", "letter", "high", "rank"] [some (.int zf), some (.int sc), some (.ref tl), some (.ref x), some (.ref lt), some (.int (j + 1)), o, o3, o4, o5]) :: K (.list (strVs us))) : InM lt ls lf c1 w L zf sc tl x j o4 o5 K us H₁
inductive InP (sc : Nat) (tb : List (List Nat)) (w : List Nat) (zf : Nat) (ls : List Nat) (lf : List Nat) (lt : Addr) (c1 : Addr) (L : Addr) (tl : Addr) (x : Addr) (j : Nat) (o4 : Option V) (o5 : Option V) (K : AO → AH) (us : List (List Nat)) (k : Nat) (H₁ : AH) : Prop
  | mk (h1 : k ≤ 99) (z2 : Nat) (ls2 rest2 : List Nat) (o o3 : Option V) (h2 : putG (16 * sc * tb.count w) (99 - k) z2 = (zf, rest2)) (h3 : ls2 ++ rest2 = ls ++ lf) (h4 : ls2.length ≤ ls.length + k) (h5 : z2 < 2 ^ 1400) (h6 : H₁ = (lt, AO.list (natVs ls2)) :: (c1, .cell (some (.str (mkS w)))) :: (L, AO.ns ["state", "scale", "table", "said", "letters", "size", "turn", "letter", "high", "rank"] [some (.int z2), some (.int sc), some (.ref tl), some (.ref x), some (.ref lt), some (.int (j + 1)), o, o3, o4, o5]) :: K (.list (strVs us))) : InP sc tb w zf ls lf lt c1 L tl x j o4 o5 K us k H₁
inductive InC (tb : List (List Nat)) (w : List Nat) (c : Addr) (b : Addr) (lt : Addr) (ls : List Nat) (lf : List Nat) (c1 : Addr) (L : Addr) (zf : Nat) (sc : Nat) (tl : Addr) (x : Addr) (j : Nat) (oo : Option V) (oo3 : Option V) (K : AO → AH) (us : List (List Nat)) (i : Nat) (acc : List V) (H₁ : AH) : Prop
  | mk (h1 : i ≤ tb.length) (h2 : acc = natVs (posns tb w i)) (p4 p5 : Option V) (h3 : H₁ = (c, .ns ["k", "one"] [p4, p5]) :: (b, .list acc) :: (lt, AO.list (natVs (ls ++ lf))) :: (c1, .cell (some (.str (mkS w)))) :: (L, AO.ns ["state", "scale", "table", "said", "letters", "size", "turn", "letter", "high", "rank"] [some (.int zf), some (.int sc), some (.ref tl), some (.ref x), some (.ref lt), some (.int (j + 1)), oo, oo3, some (.int (zf / tb.count w : Nat)), some (.int (zf % tb.count w : Nat))]) :: K (.list (strVs us))) : InC tb w c b lt ls lf c1 L zf sc tl x j oo oo3 K us i acc H₁
theorem sp_in {x dx pb tl : Addr} {n : Int} {fp : V} {sc s s' : Nat} {tb ws : List (List Nat)} {ls' : List Nat} {K : AO → AH} (W : W3 C a) (hr : Room A 25) (hk : Hole pb (.list (strVs ws)) H K) (hx : ∀ u, (x, AO.obj (instObj a.cls dx)) ∈ K u) (hd : ∀ u, (dx, AO.attrs (netA n fp pb)) ∈ K u)
    (htl : ∀ u, (tl, AO.list (strVs tb)) ∈ K u) (hT : ∀ u, Tabs a (K u)) (hws : ∀ w ∈ ws, w ∈ tb) (hwz : ws.length ≤ 60) (htz : tb.length ≤ 100) (hsc : sc ≤ 1000) (hs : s < 2 ^ 900) (ht : inG sc tb ws.reverse s = (s', ls'))
    (q : Q (.tup [.int (d2i 4 ((ls' ++ [s']).map Int.ofNat)), .ref pb]) (K (.list []))) : WPC C A (.ref a.lin) [.int s, .int sc, .ref tl, .ref x] Q H := by
  have G := W.G
  obtain ⟨cd, hF⟩ := W.lin
  have e := hk.eq
  subst e
  refine call_okC ok_lin G (fun s R => hF.keeps R.keep) hr rfl rfl rfl (vals := [some (.int s), some (.int sc), some (.ref tl), some (.ref x), none, none, none, none, none, none]) rfl (VOk.get (.some .head (.some (.tail .head) (.some (.tail (.tail .head)) (.some (.tail (.tail (.tail .head))) (.rest rfl)))))) fun L cs A' env hcs hr' FE he => ?_
  · obtain ⟨c1, rfl⟩ := cells1 hcs
    refine ⟨_, .other .nil, ?_⟩
    have hA := hr'.hd
    simp only [List.cons_append, List.nil_append]
    repeat walk_at "s"
    intro lt
    repeat walk_at "s"
    refine wp1_For (wpi_Call ?_)
    repeat walk_at "s"
    refine ga_pb W (.tail _ (.tail _ (.tail _ (hx _)))) (.tail _ (.tail _ (.tail _ (hd _)))) ?_
    repeat walk_at "s"
    refine c_len_list (.tail _ (.tail _ (.tail _ (hk.mem _)))) (by simp; lia) ?_
    repeat walk_at "s"
    refine ci_range3 hA (by rw [Int.natAbs_natCast]; simp; lia) (by decide) (by decide) (by decide) ?_
    rw [List.length_map]
    refine ⟨InO ws sc tb s' ls' lt c1 L tl x K, ws.length, ?_, ?_⟩
    · refine ⟨Nat.zero_le _, s, [], ls', none, none, none, none, none, none, ?_, rfl, Nat.le_refl _, by simp, hs, ?_⟩
      · rw [Nat.sub_zero, List.take_length]; exact ht
      · rw [Nat.sub_zero, List.take_length]; rfl
    · rintro i H₁ ⟨hi, z, ls, rest, oc, o1, o2, o3, o4, o5, hg, hls, hll, hls16, hz, rfl⟩
      by_cases hlt : i < ws.length
      · left
        refine ⟨.int (ws.length - i), hlt, down_some (by lia), ?_⟩
        have hni : ws.length - i = (ws.length - (i + 1)) + 1 := by lia
        generalize hm : ws.length - (i + 1) = m at hni
        have hmw : m < ws.length := by lia
        obtain ⟨w, hwt, hwm⟩ : ∃ w, ws.take (ws.length - i) = ws.take m ++ [w] ∧ w ∈ ws := ⟨ws[m], by rw [hni, List.take_succ_eq_append_getElem hmw], List.getElem_mem hmw⟩
        rw [hwt] at hg ⊢
        have hwl : (ws.take m).length = m := by simp; lia
        have ecast : ((ws.length : Int) - (i : Int)) = ((m : Nat) : Int) + 1 := by lia
        rw [ecast]
        generalize hus : ws.take m = us at hg hwl ⊢
        have hcap : ∀ u, Tabs a (K u) := hT
        repeat walk_at "s"
        refine wp1_For (wpi_Call ?_)
        repeat walk_at "s"
        refine ci_range1 hA (by lia) ?_
        have em : (m : Int) + 1 - 1 = (m : Nat) := by lia
        rw [em]
        have hul : ∀ j, j ≤ m → us.drop j ++ [w] ++ us.take j = (us ++ [w]).drop j ++ (us ++ [w]).take j := fun j hj => by
          rw [List.drop_append_of_le_length (by lia), List.take_append_of_le_length (by lia)]
        refine ⟨InT m lt ls c1 oc L z sc tl x o3 o4 o5 K us w, m, ?_, ?_⟩
        · refine ⟨Nat.zero_le _, o2, ?_⟩
          rw [List.drop_zero, List.take_zero, List.append_nil]
        · rintro j H₁ ⟨hj, o, rfl⟩
          by_cases hjm : j < m
          · left
            refine ⟨.int j, hjm, range_some (by lia), ?_⟩
            have hju : j < us.length := by lia
            rw [List.drop_eq_getElem_cons hju]
            repeat walk_at "s"
            refine gm_push W (.tail _ (.tail _ (.tail _ (hx _)))) (.tail _ (.tail _ (.tail _ (hd _)))) ?_
            repeat walk_at "s"
            refine gm_get W (.tail _ (.tail _ (.tail _ (hx _)))) (.tail _ (.tail _ (.tail _ (hd _)))) ?_
            repeat walk_at "s"
            refine sp_get_pb W (hr'.mono (by decide)) (.tail _ (.tail _ (.tail _ (hx _)))) (.tail _ (.tail _ (.tail _ (hd _)))) (.tail (.tail (.tail (hk.upd _ (.list (strVs (us.drop (j + 1) ++ [w] ++ us.take j)))))))  (by simp; lia) ?_
            repeat walk_at "s"
            refine sp_push W (hr'.mono (by decide)) (.tail _ (.tail _ (.tail _ (hx _)))) (.tail _ (.tail _ (.tail _ (hd _)))) (.tail (.tail (.tail (hk.upd _ _)))) (by simp; lia) ?_
            repeat walk_at "s"
            have e9 : strVs (us.drop (j + 1) ++ [w] ++ us.take j) ++ [V.str (mkS us[j])] = strVs (us.drop (j + 1) ++ [w] ++ us.take (j + 1)) := by
              rw [List.take_succ_eq_append_getElem hju]
              simp only [strVs, List.map_append, List.map_cons, List.map_nil, List.append_assoc]
            rw [e9]
            exact ⟨hjm, some (.int j), rfl⟩
          · right
            have hjm' : j = m := by lia
            subst hjm'
            refine ⟨range_none (Int.le_refl _), ?_⟩
            rw [List.drop_of_length_le (by lia), List.take_of_length_le (by lia), List.nil_append]
            repeat walk_at "s"
            refine gm_get W (.tail _ (.tail _ (.tail _ (hx _)))) (.tail _ (.tail _ (.tail _ (hd _)))) ?_
            repeat walk_at "s"
            refine sp_get_pb W (hr'.mono (by decide)) (.tail _ (.tail _ (.tail _ (hx _)))) (.tail _ (.tail _ (.tail _ (hd _)))) (.tail (.tail (.tail (hk.upd _ (.list (strVs us))))))  (by simp; lia) ?_
            repeat walk_at "s"
            have hwtb := hws w hwm
            have hc : 0 < tb.count w := List.count_pos_iff.mpr hwtb
            have hcl : tb.count w ≤ tb.length := List.count_le_length
            have hpos : 0 < tb.length := by lia
            have hzz : z < 2 ^ 1400 := Nat.lt_of_lt_of_le hz (Nat.pow_le_pow_right (by decide) (by lia))
            have hp14 : (2 : Nat) ^ 1400 < 2 ^ 3000 := Nat.pow_lt_pow_right (by decide) (by decide)
            have hp3 : 100 < (2 : Nat) ^ 3000 := Nat.lt_of_lt_of_le (by decide : 100 < 2 ^ 7) (Nat.pow_le_pow_right (by decide) (by decide))
            rw [List.reverse_append] at hg
            simp only [List.reverse_cons, List.reverse_nil, List.nil_append, List.cons_append] at hg
            rw [inG] at hg
            have hpl := putG_len (16 * sc * tb.count w) 99 z
            have hpf := putG_fst_le (16 * sc * tb.count w) 99 z
            generalize hpg : putG (16 * sc * tb.count w) 99 z = pr at hg hpl hpf
            obtain ⟨zf, lf⟩ := pr
            simp only at hg hpl hpf
            generalize hig : inG sc tb us.reverse (upT tb w zf) = ir at hg
            obtain ⟨zi, li⟩ := ir
            simp only [Prod.mk.injEq] at hg
            obtain ⟨rfl, rfl⟩ := hg
            obtain ⟨t1, t2, t3⟩ := hT (.list (strVs us))
            have htl2 := htl (.list (strVs us))
            refine wp1_mid (InM lt ls lf c1 w L zf sc tl x j o4 o5 K us) ?_ ?_
            · refine wp1_For (wpi_Call ?_)
              repeat walk_at "s"
              refine ci_range1 hA (by decide) ?_
              refine ⟨InP sc tb w zf ls lf lt c1 L tl x j o4 o5 K us, 99, ?_, ?_⟩
              · exact ⟨by decide, z, ls, lf, o, o3, hpg, rfl, Nat.le_refl _, hzz, rfl⟩
              · rintro k H₁ ⟨hk99, z2, ls2, rest2, oo, oo3, hp2, hls2, hll2, hz2, rfl⟩
                by_cases hk9 : k < 99
                · left
                  refine ⟨.int k, hk9, range_some (by lia), ?_⟩
                  have hk1 : 99 - k = (99 - (k + 1)) + 1 := by lia
                  rw [hk1, putG] at hp2
                  repeat walk_at "s"
                  refine op_mul_int (mulOk (k := 10) (l := 10) (by decide) (by rw [Int.natAbs_natCast]; lia) (by decide)) ?_
                  repeat walk_at "s"
                  refine wpm_lcount (by walk_at "mem") ?_
                  repeat walk_at "s"
                  refine c_lcountW (by walk_at "mem") ?_
                  repeat walk_at "s"
                  have e16 : (16 : Int) * (sc : Int) = ((16 * sc : Nat) : Int) := by push_cast; rfl
                  rw [e16]
                  refine op_mul_int (mulOk (k := 20) (l := 10) (by rw [Int.natAbs_natCast]; lia) (by rw [Int.natAbs_natCast]; lia) (by decide)) ?_
                  repeat walk_at "s"
                  have elim : ((16 * sc : Nat) : Int) * ((tb.count w : Nat) : Int) = ((16 * sc * tb.count w : Nat) : Int) := by push_cast; rfl
                  rw [elim]
                  refine ⟨fun h => ?_, fun h => ?_⟩
                  · have h' : z2 < 16 * sc * tb.count w := Int.ofNat_lt.mp (of_decide_eq_true h)
                    rw [if_pos h'] at hp2
                    simp only [Prod.mk.injEq] at hp2
                    obtain ⟨rfl, rfl⟩ := hp2
                    rw [List.append_nil] at hls2
                    subst hls2
                    repeat walk_at "s"
                    exact ⟨rfl, _, _, rfl⟩
                  · have h' : ¬ z2 < 16 * sc * tb.count w := fun c => absurd (Int.ofNat_lt.mpr c) (of_decide_eq_false h)
                    rw [if_neg h'] at hp2
                    generalize hpp : putG (16 * sc * tb.count w) (99 - (k + 1)) (z2 / 16) = pp at hp2
                    obtain ⟨pp1, pp2⟩ := pp
                    simp only [Prod.mk.injEq] at hp2
                    obtain ⟨rfl, rfl⟩ := hp2
                    repeat walk_at "s"
                    refine wp1_Assign ?_
                    repeat walk_at "s"
                    refine sp_int_divmod (y := 16) W (by walk_at "mem") (by walk_at "mem") (hr'.mono (by decide)) (by decide) (Nat.lt_trans hz2 hp14) (Nat.lt_of_le_of_lt (by decide) hp3) ?_
                    refine asg_Tuple hA (wpas_cons ?_)
                    repeat walk_at "s"
                    refine wpas_cons ?_
                    repeat walk_at "s"
                    refine wpas_nil ?_
                    repeat walk_at "s"
                    refine wpm_append (by walk_at "mem") ?_
                    repeat walk_at "s"
                    refine c_append (by walk_at "upd") (by simp; lia) ?_
                    repeat walk_at "s"
                    refine ⟨hk9, z2 / 16, ls2 ++ [z2 % 16], pp2, some (.int k), some (.int (z2 % 16 : Nat)), hpp, by rw [← hls2]; simp, by simp; lia, Nat.lt_of_le_of_lt (Nat.div_le_self _ _) hz2, ?_⟩
                    simp only [natVs, List.map_append, List.map_cons, List.map_nil]
                · right
                  refine ⟨range_none (by lia), ?_⟩
                  have hk0 : 99 - k = 0 := by lia
                  rw [hk0, putG] at hp2
                  simp only [Prod.mk.injEq] at hp2
                  obtain ⟨rfl, rfl⟩ := hp2
                  rw [List.append_nil] at hls2
                  subst hls2
                  repeat walk_at "s"
                  exact ⟨rfl, _, _, rfl⟩
            · rintro H₁ ⟨oo, oo3, rfl⟩
              repeat walk_at "s"
              refine wp1_Assign ?_
              repeat walk_at "s"
              refine wpm_lcount (by walk_at "mem") ?_
              repeat walk_at "s"
              refine c_lcountW (by walk_at "mem") ?_
              repeat walk_at "s"
              refine sp_int_divmod W (by walk_at "mem") (by walk_at "mem") (hr'.mono (by decide)) hc (by lia) (by lia) ?_
              refine asg_Tuple hA (wpas_cons ?_)
              repeat walk_at "s"
              refine wpas_cons ?_
              repeat walk_at "s"
              refine wpas_nil ?_
              repeat walk_at "s"
              refine c_len_list (by walk_at "mem") (by simp; lia) ?_
              repeat walk_at "s"
              rw [List.length_map]
              refine op_mul_int (mulOk (k := 1400) (l := 10) (by rw [Int.natAbs_natCast]; exact Nat.lt_of_le_of_lt (Nat.div_le_self _ _) (Nat.lt_of_le_of_lt hpf hzz)) (by rw [Int.natAbs_natCast]; lia) (by decide)) ?_
              repeat walk_at "s"
              refine wp_LC (ln' := ["k", "one"]) (gn' := []) (fs := ["word"]) (cs := [c1]) FE (by walk_at "cp") (by decide +kernel) (by simp) ?_
              refine wpi_Call ?_
              repeat walk_at "s"
              refine ci_enum_list hA (by walk_at "mem") ?_
              have FE0 := FE
              intro b c cenv FE
              replace FE : FEnv cenv c ["k", "one"] [("word", c1)] [] := FE
              refine ⟨InC tb w c b lt ls lf c1 L zf sc tl x j oo oo3 K us, tb.length, ?_, ?_⟩
              · exact ⟨Nat.zero_le _, rfl, none, none, rfl⟩
              · rintro i acc H₁ _ ⟨hi, rfl, p4, p5, rfl⟩
                have hps : (posns tb w i).length ≤ i := Nat.le_trans (List.length_filter_le _ _) (by simp)
                by_cases hit : i < tb.length
                · left
                  have eg : tb.getD i [] = tb[i] := by rw [List.getD_eq_getElem?_getD, List.getElem?_eq_getElem hit]; rfl
                  refine ⟨.tup [.int i, .str (mkS tb[i])], hit, ⟨some (.str (mkS tb[i])), ⟨strVs tb, by walk_at "mem", by simp [hit]⟩, rfl⟩, ?_⟩
                  refine asg_Tuple hA (wpas_cons ?_)
                  repeat walk_at "s"
                  refine wpas_cons ?_
                  repeat walk_at "s"
                  refine wpas_nil ?_
                  repeat walk_at "s"
                  rw [mkS_eq]
                  refine ⟨fun h => ?_, fun h => ?_⟩
                  · have h' : tb[i] = w := of_decide_eq_true h
                    repeat walk_at "s"
                    refine ⟨by simp; lia, _, by walk_at "upd", hit, ?_, _, _, rfl⟩
                    rw [posns_succ, eg, if_pos h']
                    simp only [natVs, List.map_append, List.map_cons, List.map_nil]
                  · have h' : ¬ tb[i] = w := of_decide_eq_false h
                    refine ⟨hit, ?_, _, _, rfl⟩
                    rw [posns_succ, eg, if_neg h', List.append_nil]
                · right
                  have FE := FE0
                  have hit' : i = tb.length := by lia
                  subst hit'
                  refine ⟨⟨none, ⟨strVs tb, by walk_at "mem", by simp⟩, rfl⟩, _, _, .head, ?_⟩
                  repeat walk_at "s"
                  have hpl2 := posns_len tb w tb.length (Nat.le_refl _)
                  rw [List.take_length] at hpl2
                  have hrk : zf % tb.count w < (posns tb w tb.length).length := by rw [hpl2]; exact Nat.mod_lt _ hc
                  refine gi_list (v := .int ((posns tb w tb.length).getD (zf % tb.count w) 0 : Nat)) (by walk_at "mem") (by lia) ?_ (by simp; lia) ?_
                  · rw [Int.toNat_natCast, List.getElem?_map, List.getD_eq_getElem?_getD, List.getElem?_eq_getElem hrk]; rfl
                  refine Op2.sub (.drop (.refl _)) ?_
                  repeat walk_at "s"
                  have eup : ((zf / tb.count w : Nat) : Int) * ((tb.length : Nat) : Int) + (((posns tb w tb.length).getD (zf % tb.count w) 0 : Nat) : Int) = ((upT tb w zf : Nat) : Int) := by
                    unfold upT; push_cast; rfl
                  rw [eup]
                  have hzf : zf < 2 ^ (900 + 7 * i) := Nat.lt_of_le_of_lt hpf hz
                  refine ⟨hlt, upT tb w zf, ls ++ lf, li, some (.str (mkS w)), some (.int (j + 1)), oo, oo3, some (.int (zf / tb.count w : Nat)), some (.int (zf % tb.count w : Nat)), ?_, by rw [← hls]; simp, ?_, ?_, ?_, ?_⟩
                  · rw [hm, hus]; exact hig
                  · have := hpl.1
                    simp; lia
                  · intro d hd
                    rcases List.mem_append.mp hd with hd | hd
                    · exact hls16 d hd
                    · exact hpl.2 d hd
                  · have := upT_lt hwtb hzf htz
                    have e7 : 900 + 7 * (i + 1) = 900 + 7 * i + 7 := by lia
                    rw [e7]; exact this
                  · rw [hm, hus]
      · right
        have hi' : i = ws.length := by lia
        subst hi'
        rw [Nat.sub_self, List.take_zero] at hg ⊢
        rw [show ([] : List (List Nat)).reverse = [] from rfl, inG] at hg
        simp only [Prod.mk.injEq] at hg
        obtain ⟨rfl, rfl⟩ := hg
        rw [List.append_nil] at hls
        subst hls
        refine ⟨down_none (Int.le_refl _), ?_⟩
        obtain ⟨t1, t2, t3⟩ := hT (.list (strVs []))
        repeat walk_at "s"
        intro l1
        repeat walk_at "s"
        refine op_add_list (by walk_at "mem") (by walk_at "mem") (by simp; lia) ?_
        intro l2
        repeat walk_at "s"
        have e3 : natVs ls ++ [V.int (z : Nat)] = ((ls ++ [z]).map Int.ofNat).map V.int := by simp [natVs]
        rw [e3]
        have hz2 : z < 2 ^ 1600 := Nat.lt_of_lt_of_le hz (Nat.pow_le_pow_right (by decide) (by lia))
        refine sp_digits2int (B := 1600) (ds := (ls ++ [z]).map Int.ofNat) W (hr'.mono (by decide)) (by decide) (fun d hd => ?_) (by simp; lia) (by simp; lia) (by walk_at "mem") (by walk_at "mem") ?_
        · obtain ⟨e, he, rfl⟩ := List.mem_map.mp hd
          show e < 2 ^ 1600
          rcases List.mem_append.mp he with he | he
          · exact Nat.lt_trans (hls16 e he) (Nat.lt_of_lt_of_le (by decide : 16 < 2 ^ 5) (Nat.pow_le_pow_right (by decide) (by decide)))
          · rw [List.mem_singleton.mp he]; exact hz2
        repeat walk_at "s"
        refine ga_pb W (.tail _ (.tail _ (.tail _ (.tail _ (.tail _ (hx _)))))) (.tail _ (.tail _ (.tail _ (.tail _ (.tail _ (hd _)))))) ?_
        repeat walk_at "s"
        exact ⟨_, .drop (.drop (.drop (.drop (.drop (.refl _))))), q⟩
end
end
noncomputable section
noncomputable def cntG (tb : List (List Nat)) (w : List Nat) (s : Nat) : List Nat := (List.range s).filter fun i => decide (tb.getD (i % tb.length) [] = w)
theorem cntG_succ (tb : List (List Nat)) (w : List Nat) (n : Nat) : cntG tb w (n + 1) = cntG tb w n ++ if tb.getD (n % tb.length) [] = w then [n] else [] := by
  unfold cntG
  rw [List.range_succ, List.filter_append, List.filter_cons, List.filter_nil]
  by_cases h : tb.getD (n % tb.length) [] = w
  · rw [if_pos (by simpa using h), if_pos h]
  · rw [if_neg (by simpa using h), if_neg h]
theorem cntG_len {tb : List (List Nat)} (h : tb ≠ []) (w : List Nat) : ∀ s, (cntG tb w s).length = tb.count w * (s / tb.length) + (tb.take (s % tb.length)).count w
  | 0 => by simp [cntG]
  | s + 1 => by
    have hpos : 0 < tb.length := List.length_pos_iff.mpr h
    rw [cntG_succ, List.length_append, cntG_len h w s]
    have hm : s % tb.length < tb.length := Nat.mod_lt _ hpos
    have eg : tb.getD (s % tb.length) [] = tb[s % tb.length] := by rw [List.getD_eq_getElem?_getD, List.getElem?_eq_getElem hm]; rfl
    have et : (tb.take (s % tb.length + 1)).count w = (tb.take (s % tb.length)).count w + (if tb.getD (s % tb.length) [] = w then [s] else []).length := by
      rw [List.take_succ_eq_append_getElem hm, List.count_append, eg]
      by_cases hw : tb[s % tb.length] = w
      · rw [if_pos hw, hw]; simp
      · rw [if_neg hw]; simp [hw]
    rw [Nat.add_assoc, ← et]
    by_cases hl : s % tb.length + 1 = tb.length
    · have hd : (s + 1) / tb.length = s / tb.length + 1 := by
        have := Nat.div_add_mod s tb.length
        have e : s + 1 = tb.length * (s / tb.length + 1) := by rw [Nat.mul_add, Nat.mul_one]; lia
        rw [e, Nat.mul_div_cancel_left _ hpos]
      have hm0 : (s + 1) % tb.length = 0 := by
        have := Nat.div_add_mod s tb.length
        have e : s + 1 = tb.length * (s / tb.length + 1) := by rw [Nat.mul_add, Nat.mul_one]; lia
        rw [e]; exact Nat.mul_mod_right _ _
      rw [hd, hm0, hl, List.take_length, List.take_zero, Nat.mul_add, Nat.mul_one]; simp
    · have hm1 : (s + 1) % tb.length = s % tb.length + 1 := by
        rw [Nat.add_mod, Nat.mod_eq_of_lt (a := s % tb.length + 1 % tb.length)]
        · have : 1 % tb.length = 1 := Nat.mod_eq_of_lt (by lia)
          lia
        · have : 1 % tb.length ≤ 1 := Nat.mod_le _ _
          lia
      have hd : (s + 1) / tb.length = s / tb.length := by
        have h1 := Nat.div_add_mod s tb.length
        have h2 := Nat.div_add_mod (s + 1) tb.length
        rw [hm1] at h2
        have : tb.length * ((s + 1) / tb.length) = tb.length * (s / tb.length) := by lia
        exact Nat.eq_of_mul_eq_mul_left hpos this
      rw [hd, hm1]
theorem cntG_dn {tb : List (List Nat)} (h : tb ≠ []) (s : Nat) : (cntG tb (tb.getD (s % tb.length) []) s).length = dn tb s := by
  rw [cntG_len h]; rfl
theorem takeG_drop (low : Nat) : ∀ (s : Nat) (ds : List Nat), ∃ k, k ≤ ds.length ∧ (takeG low s ds).2 = ds.drop k
  | s, [] => ⟨0, Nat.le_refl _, rfl⟩
  | s, d :: ds => by
    by_cases h : low ≤ s
    · rw [takeG_stop h]; exact ⟨0, Nat.zero_le _, rfl⟩
    · rw [takeG_go h]
      obtain ⟨k, hk, e⟩ := takeG_drop low (16 * s + d) ds
      exact ⟨k + 1, by simp; lia, by rw [e]; rfl⟩
section
variable {C : Cfg} {a : Ad} {A : Around} {H H' : AH} {Q : V → AH → Prop}
inductive CtO (m : Nat) (low : Nat) (tb : List (List Nat)) (s' : Nat) (ds' : List Nat) (told : List (List Nat)) (ds : List Nat) (tt : Addr) (c1 : Addr) (c2 : Addr) (tl : Addr) (L : Addr) (fl : Addr) (H : AH) (i : Nat) (H₁ : AH) : Prop
  | mk (h1 : i ≤ m) (z : Nat) (l : List Nat) (acc rest : List (List Nat)) (o1 o2 : Option V) (u : Nat) (h2 : outG low tb (m - i) z l = (s', rest, ds')) (h3 : acc ++ rest = told) (h4 : acc.length ≤ i) (h5 : z < 16000) (h6 : u ≤ ds.length) (h7 : l = ds.drop u) (h8 : H₁ = (tt, .list (strVs acc)) :: (c1, .cell (some (.ref tt))) :: (c2, .cell (some (.ref tl))) :: (L, AO.ns ["figures", "low", "most", "state", "used", "turn", "figure"] [some (.ref fl), some (.int low), some (.int m), some (.int z), some (.int u), o1, o2]) :: H) : CtO m low tb s' ds' told ds tt c1 c2 tl L fl H i H₁
inductive CtM (tt : Addr) (acc : List (List Nat)) (c1 : Addr) (c2 : Addr) (tl : Addr) (L : Addr) (fl : Addr) (low : Nat) (m : Nat) (z2 : Nat) (ds : List Nat) (l2 : List Nat) (i : Nat) (H : AH) (H₁ : AH) : Prop
  | mk (o2 : Option V) (sl : Addr) (vs : List V) (h1 : H₁ = (sl, .list vs) :: (tt, .list (strVs acc)) :: (c1, .cell (some (.ref tt))) :: (c2, .cell (some (.ref tl))) :: (L, AO.ns ["figures", "low", "most", "state", "used", "turn", "figure"] [some (.ref fl), some (.int low), some (.int m), some (.int z2), some (.int (ds.length - l2.length : Nat)), some (.int i), o2]) :: H) : CtM tt acc c1 c2 tl L fl low m z2 ds l2 i H H₁
inductive CtT (l : List Nat) (low : Nat) (z2 : Nat) (l2 : List Nat) (sl : Addr) (tt : Addr) (acc : List (List Nat)) (c1 : Addr) (c2 : Addr) (tl : Addr) (L : Addr) (fl : Addr) (m : Nat) (u : Nat) (i : Nat) (H : AH) (k : Nat) (H₁ : AH) : Prop
  | mk (h1 : k ≤ l.length) (z3 : Nat) (o2 : Option V) (h2 : takeG low z3 (l.drop k) = (z2, l2)) (h3 : z3 < 16000) (h4 : H₁ = (sl, .list (natVs l)) :: (tt, .list (strVs acc)) :: (c1, .cell (some (.ref tt))) :: (c2, .cell (some (.ref tl))) :: (L, AO.ns ["figures", "low", "most", "state", "used", "turn", "figure"] [some (.ref fl), some (.int low), some (.int m), some (.int z3), some (.int (u + k : Nat)), some (.int i), o2]) :: H) : CtT l low z2 l2 sl tt acc c1 c2 tl L fl m u i H k H₁
inductive CtC (z2 : Nat) (tb : List (List Nat)) (w : List Nat) (c : Addr) (b : Addr) (tt : Addr) (acc : List (List Nat)) (c1 : Addr) (c2 : Addr) (tl : Addr) (L : Addr) (fl : Addr) (low : Nat) (m : Nat) (ds : List Nat) (l2 : List Nat) (i : Nat) (o3 : Option V) (H : AH) (k : Nat) (bc : List V) (H₁ : AH) : Prop
  | mk (h1 : k ≤ z2) (h2 : bc = natVs (cntG tb w k)) (p : Option V) (h3 : H₁ = (c, .ns ["one"] [p]) :: (b, .list bc) :: (tt, .list (strVs (acc ++ [w]))) :: (c1, .cell (some (.ref tt))) :: (c2, .cell (some (.ref tl))) :: (L, AO.ns ["figures", "low", "most", "state", "used", "turn", "figure"] [some (.ref fl), some (.int low), some (.int m), some (.int z2), some (.int (ds.length - l2.length : Nat)), some (.int i), o3]) :: H) : CtC z2 tb w c b tt acc c1 c2 tl L fl low m ds l2 i o3 H k bc H₁
theorem sp_counted {fl tl : Addr} {low m s' : Nat} {tb told : List (List Nat)} {ds ds' : List Nat} (W : W3 C a) (hr : Room A 2) (hfl : (fl, AO.list (natVs ds)) ∈ H) (htl : (tl, AO.list (strVs tb)) ∈ H)
    (hl : ds.length ≤ 90) (hds : ∀ e ∈ ds, e < 16) (hlow : low ≤ 1000) (htb : tb ≠ []) (htz : tb.length ≤ 100) (hm : m ≤ 1000) (ht : outG low tb m 0 ds = (s', told, ds'))
    (q : ∀ t, Q (.tup [.int s', .ref t, .int (ds.length - ds'.length : Nat)]) ((t, .list (strVs told)) :: H)) : WPC C A (.ref a.counted) [.ref fl, .int low, .ref tl, .int m] Q H := by
  have G := W.G
  obtain ⟨cd, hF⟩ := W.counted
  refine call_okC ok_counted G (fun s R => hF.keeps R.keep) hr rfl rfl rfl (vals := [some (.ref fl), some (.int low), some (.int m), none, none, none, none]) rfl (VOk.get (.some .head (.some (.tail .head) (.some (.tail (.tail (.tail .head))) (.rest rfl))))) fun L cs A' env hcs hr' FE he => ?_
  · obtain ⟨c1, c2, rfl⟩ := cells2 hcs
    refine ⟨_, .other (.param (.tail (.tail .head)) .nil), ?_⟩
    have hA := hr'.hd
    have hpos : 0 < tb.length := List.length_pos_iff.mpr htb
    simp only [List.cons_append, List.nil_append]
    refine wps_cons (wp1_Assign ?_ (hw := noswap (a := "told") FE (.head _) (by walk_at "mem")))
    repeat walk_at "s"
    intro tt
    repeat walk_at "s"
    refine asg_Tuple hA (wpas_cons ?_)
    repeat walk_at "s"
    refine wpas_cons ?_
    repeat walk_at "s"
    refine wpas_cons ?_
    repeat walk_at "s"
    refine wpas_nil ?_
    repeat walk_at "s"
    refine wp1_For (wpi_Call ?_)
    repeat walk_at "s"
    refine ci_range1 hA (by rw [Int.natAbs_natCast]; lia) ?_
    refine ⟨CtO m low tb s' ds' told ds tt c1 c2 tl L fl H, m, ?_, ?_⟩
    · exact ⟨Nat.zero_le _, 0, ds, [], told, none, none, 0, ht, rfl, Nat.le_refl _, by decide, Nat.zero_le _, rfl, rfl⟩
    · rintro i H₁ ⟨hi, z, l, acc, rest, o1, o2, u, hg, hacc, hal, hz, hu, hlu, rfl⟩
      have hll : l.length = ds.length - u := by rw [hlu]; simp
      have hlds : ∀ e ∈ l, e < 16 := fun e he => hds e (by rw [hlu] at he; exact List.mem_of_mem_drop he)
      by_cases hlt : i < m
      · left
        refine ⟨.int i, hlt, range_some (by lia), ?_⟩
        have hmi : m - i = (m - (i + 1)) + 1 := by lia
        rw [hmi, outG] at hg
        have tk := takeG_lt (low := low) (B := 16000) (by lia) hz hlds
        have tdp := takeG_drop low z l
        generalize htk : takeG low z l = tt2 at hg tk tdp
        obtain ⟨z2, l2⟩ := tt2
        simp only at hg tk tdp
        obtain ⟨hz2, hl2, hlds2⟩ := tk
        repeat walk_at "s"
        refine wp1_mid (CtM tt acc c1 c2 tl L fl low m z2 ds l2 i H) ?_ ?_
        · refine wp1_For (wpi_value ?_)
          repeat walk_at "s"
          refine gs_list (by walk_at "mem") (by decide) (by simp; lia) ?_
          intro sl
          rw [pySlice_drop _ _ (by simp; lia)]
          refine pi_list hA (by walk_at "mem") ?_
          have ed : (natVs ds).drop u = natVs l := by rw [hlu]; simp
          rw [ed]
          refine ⟨CtT l low z2 l2 sl tt acc c1 c2 tl L fl m u i H, l.length, ?_, ?_⟩
          · exact ⟨Nat.zero_le _, z, o2, htk, hz, rfl⟩
          · rintro k H₁ ⟨hk, z3, o3, ht3, hz3, rfl⟩
            by_cases hkl : k < l.length
            · left
              refine ⟨.int (l[k] : Nat), hkl, ⟨natVs l, by walk_at "mem", by simp [hkl]⟩, ?_⟩
              have hl16 := hlds l[k] (List.getElem_mem hkl)
              repeat walk_at "s"
              refine ⟨fun h => ?_, fun h => ?_⟩
              · have h' : low ≤ z3 := Int.ofNat_le.mp (of_decide_eq_true h)
                rw [takeG_stop h'] at ht3
                simp only [Prod.mk.injEq] at ht3
                obtain ⟨rfl, rfl⟩ := ht3
                repeat walk_at "s"
                have eu : ds.length - (l.drop k).length = u + k := by rw [List.length_drop]; lia
                exact ⟨rfl, _, _, _, by rw [eu]⟩
              · have h' : ¬ low ≤ z3 := fun c => absurd (Int.ofNat_le.mpr c) (of_decide_eq_false h)
                rw [List.drop_eq_getElem_cons hkl, takeG_go h'] at ht3
                repeat walk_at "s"
                refine wp1_swap2 FE hA (by walk_at "mem") (by walk_at "mem") ?_
                repeat walk_at "s"
                refine op_mul_int (mulOk (k := 10) (l := 20) (by decide) (by rw [Int.natAbs_natCast]; lia) (by decide)) ?_
                repeat walk_at "s"
                have e1 : (16 : Int) * (z3 : Int) + (l[k] : Int) = ((16 * z3 + l[k] : Nat) : Int) := by push_cast; rfl
                have e2 : ((u + k : Nat) : Int) + 1 = ((u + (k + 1) : Nat) : Int) := by push_cast; lia
                rw [e1, e2]
                exact ⟨hkl, 16 * z3 + l[k], _, ht3, by lia, rfl⟩
            · right
              have hk' : k = l.length := by lia
              subst hk'
              rw [List.drop_length, takeG_nil] at ht3
              simp only [Prod.mk.injEq] at ht3
              obtain ⟨rfl, rfl⟩ := ht3
              refine ⟨⟨natVs l, by walk_at "mem", by simp⟩, ?_⟩
              repeat walk_at "s"
              have eu : ds.length - ([] : List Nat).length = u + l.length := by simp; lia
              exact ⟨rfl, _, _, _, by rw [eu]⟩
        · rintro H₁ ⟨o3, sl, vs, rfl⟩
          refine WP.sub (.drop (.refl _)) ?_
          repeat walk_at "s"
          refine ⟨fun h => ?_, fun h => ?_⟩
          · have h' : z2 < low := Int.ofNat_lt.mp (of_decide_eq_true h)
            rw [if_pos h'] at hg
            simp only [Prod.mk.injEq] at hg
            obtain ⟨rfl, rfl, rfl⟩ := hg
            rw [List.append_nil] at hacc
            subst hacc
            repeat walk_at "s"
            exact ⟨_, .pick .head (.drop (.drop (.drop (.refl _)))), q _⟩
          · have h' : ¬ z2 < low := fun c => absurd (Int.ofNat_lt.mpr c) (of_decide_eq_false h)
            rw [if_neg h'] at hg
            generalize hr2 : outG low tb (m - (i + 1)) (dn tb z2) l2 = r2 at hg
            obtain ⟨r21, r22, r23⟩ := r2
            simp only [Prod.mk.injEq] at hg
            obtain ⟨rfl, rfl, rfl⟩ := hg
            have hmod : z2 % tb.length < tb.length := Nat.mod_lt _ hpos
            have hget : (strVs tb)[(((z2 % tb.length : Nat) : Int)).toNat]? = some (.str (mkS (tb.getD (z2 % tb.length) []))) := by
              rw [Int.toNat_natCast, List.getElem?_map, List.getD_eq_getElem?_getD, List.getElem?_eq_getElem hmod]; rfl
            repeat walk_at "s"
            refine wpm_append (by walk_at "mem") ?_
            repeat walk_at "s"
            refine c_len_list (by walk_at "mem") (by simp; lia) ?_
            repeat walk_at "s"
            rw [List.length_map]
            refine op_mod_int (by lia) ?_
            rw [fmod_nat]
            refine gi_list (by walk_at "mem") (by lia) hget (by simp; lia) ?_
            repeat walk_at "s"
            refine c_append (by walk_at "upd") (by simp; lia) ?_
            repeat walk_at "s"
            generalize hwd : tb.getD (z2 % tb.length) [] = w at hr2 ⊢
            have ea : strVs acc ++ [V.str (mkS w)] = strVs (acc ++ [w]) := by simp only [strVs, List.map_append, List.map_cons, List.map_nil]
            rw [ea]
            have FE0 := FE
            refine wp_LC (ln' := ["one"]) (gn' := ["len"]) (fs := ["table", "told"]) (cs := [c2, c1]) FE (by walk_at "cp") (by decide +kernel) (by simp) ?_
            refine wpi_Call ?_
            repeat walk_at "s"
            refine ci_range1 hA (by lia) ?_
            intro b c cenv FE
            replace FE : FEnv cenv c ["one"] [("told", c1), ("table", c2)] ["len"] := FE
            refine ⟨CtC z2 tb w c b tt acc c1 c2 tl L fl low m ds l2 i o3 H, z2, ?_, ?_⟩
            · exact ⟨Nat.zero_le _, rfl, none, rfl⟩
            · rintro k bc H₁ _ ⟨hk, rfl, p, rfl⟩
              have hps : (cntG tb w k).length ≤ k := Nat.le_trans (List.length_filter_le _ _) (by simp)
              by_cases hkz : k < z2
              · left
                refine ⟨.int k, hkz, range_some (by lia), ?_⟩
                have hmk : k % tb.length < tb.length := Nat.mod_lt _ hpos
                repeat walk_at "s"
                refine c_len_list (by walk_at "mem") (by simp; lia) ?_
                repeat walk_at "s"
                rw [List.length_map]
                refine op_mod_int (by lia) ?_
                rw [fmod_nat]
                refine gi_list (v := .str (mkS (tb.getD (k % tb.length) []))) (by walk_at "mem") (by lia) ?_ (by simp; lia) ?_
                · rw [Int.toNat_natCast, List.getElem?_map, List.getD_eq_getElem?_getD, List.getElem?_eq_getElem hmk]; rfl
                repeat walk_at "s"
                refine gi_list_neg (v := .str (mkS w)) (by walk_at "mem") (by decide) (by simp; lia) ?_ (by simp; lia) ?_
                · have : ((-1 : Int) + ((strVs (acc ++ [w])).length : Nat)).toNat = acc.length := by
                    simp only [List.length_map, List.length_append, List.length_cons, List.length_nil]; lia
                  rw [this]; simp
                repeat walk_at "s"
                rw [mkS_eq]
                refine ⟨fun h => ?_, fun h => ?_⟩
                · have h' := of_decide_eq_true h
                  repeat walk_at "s"
                  refine ⟨by simp; lia, _, by walk_at "upd", hkz, ?_, _, rfl⟩
                  rw [cntG_succ, if_pos h']
                  simp only [natVs, List.map_append, List.map_cons, List.map_nil]
                · have h' := of_decide_eq_false h
                  refine ⟨hkz, ?_, _, rfl⟩
                  rw [cntG_succ, if_neg h', List.append_nil]
              · right
                have FE := FE0
                have hkz' : k = z2 := by lia
                subst hkz'
                refine ⟨range_none (Int.le_refl _), _, _, .head, ?_⟩
                repeat walk_at "s"
                refine c_len_list (by walk_at "mem") (by simp; lia) ?_
                rw [List.length_map, ← hwd, cntG_dn htb]
                refine Op1.sub (.drop (.refl _)) ?_
                repeat walk_at "s"
                have hdz := dn_le htb k
                obtain ⟨kk, hkk, ek⟩ := tdp
                exact ⟨hlt, dn tb k, l2, acc ++ [tb.getD (k % tb.length) []], r22, some (.int i), o3, ds.length - l2.length, hr2, by rw [← hacc, hwd]; simp, by simp; lia, by lia, by lia, by rw [ek, hlu, List.length_drop, List.drop_drop, List.length_drop]; congr 1; lia, rfl⟩
      · right
        have hi' : i = m := by lia
        subst hi'
        rw [Nat.sub_self, outG] at hg
        simp only [Prod.mk.injEq] at hg
        obtain ⟨rfl, rfl, rfl⟩ := hg
        rw [List.append_nil] at hacc
        subst hacc
        refine ⟨range_none (Int.le_refl _), ?_⟩
        repeat walk_at "s"
        have eu : u = ds.length - l.length := by lia
        rw [eu]
        exact ⟨_, .pick .head (.drop (.drop (.drop (.refl _)))), q _⟩
end
end
noncomputable section
section
variable {C : Cfg} {A : Around} {α β : Type} {T : Heap → β → α → Prop} {t : Sem α} {Q : β → AH → Prop} {H : AH}
/-- a tree that ends in one value and leaves the tracked heap, but for what is new -/
theorem WP.pin (v : β) (h : WP C A T t (fun x H₁ => x = v ∧ Sub H H₁) H) (k : Q v H) : WP C A T t Q H := fun s R =>
  wpAny_mono (h s R) (fun _ _ p157 => Post.el p157 fun x H₁ p158 r R₁ kp => p158.elim fun hx y => ⟨x, H, by subst hx; exact k, r, R₁.sub y, kp.sub y⟩) fun _ _ e => e
theorem sign_in (l : List Nat) (c : Nat) : (!(Builtin.Str.occurrences (mkS l) ⟨#[c]⟩ 0 (mkS l).length 1).isEmpty) = decide (c ∈ l) := by
  rw [StrLaws.found_one]
end
end
noncomputable section
theorem Cfg.Ok.hide {C : Cfg} {gl : List (Str × V)} (G : C.Ok gl) (l : List Addr) (h : ∀ p ∈ gl, ∀ vs, p.2 ≠ .tup vs) : (C.hide l).Ok gl where
  kin := G.kin
  g := G.g
  b := G.b
  nolimit := G.nolimit
  gl := fun p hp => by
    obtain ⟨v, rv, hv⟩ := G.gl p hp
    have hn := h p hp
    refine ⟨v, ?_, hv⟩
    cases e : p.2 <;> rw [e] at rv <;> first | exact absurd e (hn _) | (simp only [VRel] at rv ⊢; exact rv)
  bmain := G.bmain
theorem gl3_notup (a : Ad) : ∀ p ∈ GL3 a, ∀ vs, p.2 ≠ .tup vs := by
  intro p hp vs
  simp only [GL3, List.mem_cons, List.not_mem_nil, or_false] at hp
  rcases hp with h | h | h | h | h | h | h | h | h | h | h | h | h | h | h | h | h | h | h | h | h | h | h | h | h | h | h | h <;> subst h <;> simp
/-- how a word is written -/
noncomputable def styleOf (w : List Nat) (c : Nat) : Nat := if w = [] then 1 else c / 4 % 4
noncomputable def escG (st k s : Nat) : Bool := decide (1 < st) || decide (s ∈ (if st = 0 then [32, 10, 92] else [34, 92])) || (decide (s = 34) && decide (k = 0))
noncomputable def pieceG (st k s : Nat) : List Nat := (if escG st k s then [92] else []) ++ [s]
noncomputable def piecesG (st : Nat) (w : List Nat) : List (List Nat) := (List.range w.length).map fun k => pieceG st k (w.getD k 0)
noncomputable def wsQ (m : Nat) : List Nat := match m with | 0 => [] | 1 => [10] | 2 => [32] | _ => [9, 13]
noncomputable def wsB (m : Nat) : List Nat := match m with | 0 => [32] | 1 => [10] | 2 => [9, 10] | _ => [13, 10, 32]
noncomputable def oneG (w : List Nat) (c : Nat) : List Nat := if styleOf w c % 2 = 1 then [34] ++ (piecesG (styleOf w c) w).flatten ++ [34] ++ wsQ (c / 16 % 4) else (piecesG (styleOf w c) w).flatten ++ wsB (c / 16 % 4)
noncomputable def textG (ws : List (List Nat)) (cs : List Nat) : List (List Nat) := List.zipWith oneG ws cs
theorem flat_le {k : Nat} : ∀ {l : List (List Nat)}, (∀ x ∈ l, x.length ≤ k) → l.flatten.length ≤ k * l.length
  | [], _ => by simp
  | x :: l, h => by
    have h1 := h x (.head _)
    have h2 := flat_le (l := l) fun y hy => h y (.tail _ hy)
    rw [List.flatten_cons, List.length_append, List.length_cons, Nat.mul_add, Nat.mul_one]; lia
theorem pieces_le (st : Nat) (w : List Nat) : (piecesG st w).flatten.length ≤ 2 * w.length := by
  have := flat_le (k := 2) (l := piecesG st w) fun x hx => by
    obtain ⟨k, _, rfl⟩ := List.mem_map.mp hx
    unfold pieceG
    split <;> simp
  simpa [piecesG] using this
theorem wsQ_le (m : Nat) : (wsQ m).length ≤ 3 := by unfold wsQ; split <;> simp
theorem wsB_le (m : Nat) : (wsB m).length ≤ 3 := by unfold wsB; split <;> simp
theorem oneG_le (w : List Nat) (c : Nat) : (oneG w c).length ≤ 2 * w.length + 5 := by
  have h1 := pieces_le (styleOf w c) w
  have h2 := wsQ_le (c / 16 % 4)
  have h3 := wsB_le (c / 16 % 4)
  unfold oneG
  split
  · simp only [List.length_append, List.length_cons, List.length_nil]; lia
  · simp only [List.length_append]; lia
theorem textG_le {ws : List (List Nat)} {cs : List Nat} (hw : ∀ w ∈ ws, w.length ≤ 100) (i : Nat) : ((textG ws cs).take i).flatten.length ≤ 205 * i := by
  refine Nat.le_trans (flat_le (k := 205) fun x hx => ?_) (Nat.mul_le_mul_left _ (List.length_take_le _ _))
  have hx := List.mem_of_mem_take hx
  unfold textG at hx
  obtain ⟨n, hn, rfl⟩ := List.mem_iff_getElem.mp hx
  rw [List.getElem_zipWith]
  have := oneG_le (ws[n]'(by simp at hn; lia)) (cs[n]'(by simp at hn; lia))
  have := hw (ws[n]'(by simp at hn; lia)) (List.getElem_mem _)
  lia
section
variable {C : Cfg} {a : Ad} {A : Around} {H H' : AH} {Q : V → AH → Prop}
inductive TxO (c1 : Addr) (L : Addr) (wl : Addr) (cl : Addr) (ws : List (List Nat)) (cs : List Nat) (H : AH) (i : Nat) (H₁ : AH) : Prop
  | mk (oc o1 o2 o3 o4 : Option V) (h1 : H₁ = (c1, .cell oc) :: (L, AO.ns ["words", "cells", "text", "word", "cell", "more", "body"] [some (.ref wl), some (.ref cl), some (.str (mkS ((textG ws cs).take i).flatten)), o1, o2, o3, o4]) :: H) : TxO c1 L wl cl ws cs H i H₁
inductive TxC (w : List Nat) (st : Nat) (c : Addr) (b : Addr) (c1 : Addr) (L : Addr) (wl : Addr) (cl : Addr) (ws : List (List Nat)) (cs : List Nat) (i : Nat) (ci : Nat) (mo : Nat) (o4 : Option V) (H : AH) (e : Nat) (acc : List V) (H₁ : AH) : Prop
  | mk (h1 : e ≤ w.length) (h2 : acc = strVs ((piecesG st w).take e)) (p1 p2 : Option V) (h3 : H₁ = (c, .ns ["k", "sign"] [p1, p2]) :: (b, .list acc) :: (c1, .cell (some (.int st))) :: (L, AO.ns ["words", "cells", "text", "word", "cell", "more", "body"] [some (.ref wl), some (.ref cl), some (.str (mkS ((textG ws cs).take i).flatten)), some (.str (mkS w)), some (.int (ci : Nat)), some (.int mo), o4]) :: H) : TxC w st c b c1 L wl cl ws cs i ci mo o4 H e acc H₁
theorem sp_text {wl cl : Addr} {ws : List (List Nat)} {cs : List Nat} (W : W3 C a) (hr : Room A 1) (hwl : (wl, AO.list (strVs ws)) ∈ H) (hcl : (cl, AO.list (natVs cs)) ∈ H) (hz : ws.length ≤ 20) (hwz : ∀ w ∈ ws, w.length ≤ 100) 
    (q : Q (.str (mkS (textG ws cs).flatten)) H) : WPC C A (.ref a.text) [.ref wl, .ref cl] Q H := by
  have G := W.G
  obtain ⟨cd, hF⟩ := W.text
  refine call_okC ok_text G (fun s R => hF.keeps R.keep) hr rfl rfl rfl (vals := [some (.ref wl), some (.ref cl), none, none, none, none, none]) rfl (VOk.get (.some .head (.some (.tail .head) (.rest rfl)))) fun L cs' A' env hcs hr' FE he => ?_
  · obtain ⟨c1, rfl⟩ := cells1 hcs
    refine ⟨_, .other .nil, ?_⟩
    have hA := hr'.hd
    simp only [List.cons_append, List.nil_append]
    repeat walk_at "s"
    refine wp1_For (wpi_Call ?_)
    repeat walk_at "s"
    refine ci_zip hA (by walk_at "mem") (by walk_at "mem") ?_
    intro bz
    replace G := G.hide [bz] (gl3_notup a)
    refine ⟨TxO c1 L wl cl ws cs H, 20, ?_, ?_⟩
    · refine ⟨none, none, none, none, none, ?_⟩
      rw [List.take_zero, List.flatten_nil, ← mkS_nil]
    · rintro i H₁ ⟨oc, o1, o2, o3, o4, rfl⟩
      by_cases hlt : i < ws.length ∧ i < cs.length
      · left
        obtain ⟨hiw, hic⟩ := hlt
        refine ⟨.tup [.str (mkS ws[i]), .int (cs[i] : Nat)], by lia, ⟨strVs ws, natVs cs, by walk_at "mem", by walk_at "mem", .inl ⟨.str (mkS ws[i]), .int (cs[i] : Nat), by simp [hiw], by simp [hic], rfl⟩⟩, ?_⟩
        have hw100 := hwz ws[i] (List.getElem_mem hiw)
        refine asg_Tuple hA (wpas_cons ?_)
        repeat walk_at "s"
        refine wpas_cons ?_
        repeat walk_at "s"
        refine wpas_nil ?_
        repeat walk_at "s"
        refine wp1_Assign ?_ (hw := noswap (a := "style") FE (.head _) (by walk_at "mem"))
        refine wp_Tuple (wpl_cons (WP.pin (.int (styleOf ws[i] cs[i] : Nat)) ?_ ?_))
        · repeat walk_at "s"
          refine tr_str (by rw [mkS_len]; lia) ?_
          rw [mkS_len]
          refine ⟨fun h => ?_, fun h => ?_⟩
          · have hw : ws[i] ≠ [] := by
              intro e; rw [e] at h; simp at h
            repeat walk_at "s"
            refine op_floordiv_int (by decide) (PyProof.noPylong_small (by decide)) ?_
            repeat walk_at "s"
            refine op_mod_int (by decide) ?_
            rw [show ((cs[i] : Nat) : Int).fdiv 4 = ((cs[i] / 4 : Nat) : Int) from fdiv_nat cs[i] 4, show ((cs[i] / 4 : Nat) : Int).fmod 4 = ((cs[i] / 4 % 4 : Nat) : Int) from fmod_nat _ 4]
            refine ⟨?_, .refl _⟩
            rw [styleOf, if_neg hw]
          · have hw : ws[i] = [] := by simpa using h
            repeat walk_at "s"
            refine ⟨?_, .refl _⟩
            rw [styleOf, if_pos hw]; rfl
        repeat walk_at "s"
        refine op_floordiv_int (by decide) (PyProof.noPylong_small (by decide)) ?_
        repeat walk_at "s"
        refine op_mod_int (by decide) ?_
        rw [show ((cs[i] : Nat) : Int).fdiv 16 = ((cs[i] / 16 : Nat) : Int) from fdiv_nat cs[i] 16, show ((cs[i] / 16 : Nat) : Int).fmod 4 = ((cs[i] / 16 % 4 : Nat) : Int) from fmod_nat _ 4]
        repeat walk_at "s"
        refine asg_Tuple hA (wpas_cons ?_)
        repeat walk_at "s"
        refine wpas_cons ?_
        repeat walk_at "s"
        refine wpas_nil ?_
        repeat walk_at "s"
        generalize hst : styleOf ws[i] cs[i] = st
        generalize hwd : ws[i] = w at hw100 ⊢
        refine wpm_join ?_
        repeat walk_at "s"
        have FE0 := FE
        refine wp_LC (ln' := ["k", "sign"]) (gn' := []) (fs := ["style"]) (cs := [c1]) FE (by walk_at "cp") (by decide +kernel) (by simp) ?_
        refine wpi_Call ?_
        repeat walk_at "s"
        refine ci_enum_str hA ?_
        intro b c cenv FE
        replace FE : FEnv cenv c ["k", "sign"] [("style", c1)] [] := FE
        have hst4 : st < 4 := by rw [← hst]; unfold styleOf; split; decide; exact Nat.mod_lt _ (by decide)
        generalize hmm : cs[i] / 16 % 4 = mo
        have hmo4 : mo < 4 := by rw [← hmm]; exact Nat.mod_lt _ (by decide)
        refine ⟨TxC w st c b c1 L wl cl ws cs i cs[i] mo o4 H, w.length, ?_, ?_⟩
        · exact ⟨Nat.zero_le _, rfl, none, none, rfl⟩
        · rintro e acc H₁ _ ⟨he, rfl, p1, p2, rfl⟩
          by_cases hew : e < w.length
          · left
            refine ⟨.tup [.int e, .str (sg w[e])], hew, ⟨some (.str (sg w[e])), by simp [signItem, fnItem, Str.length, hew], rfl⟩, ?_⟩
            refine asg_Tuple hA (wpas_cons ?_)
            repeat walk_at "s"
            refine wpas_cons ?_
            repeat walk_at "s"
            refine wpas_nil ?_
            refine wpt_nil ⟨fun _ => ?_, fun h => nomatch h⟩
            refine wp_BinOp (WP.pin (.str (mkS (if escG st e w[e] then [92] else []))) ?_ ?_)
            · refine wp_IfExp (WP.pin (T := BRel) (escG st e w[e]) ?_ ?_)
              · generalize hce : w[e] = ce
                have hs0 : (" \n\\" : Str) = mkS [32, 10, 92] := by decide +kernel
                have hs1 : ("\"\\" : Str) = mkS [34, 92] := by decide +kernel
                repeat walk_at "s"
                refine ⟨fun h => ?_, fun h => ?_⟩
                · have h' : 1 < st := Int.ofNat_lt.mp (of_decide_eq_true h)
                  exact ⟨by simp [escG, h'], .refl _⟩
                · have h' : ¬ 1 < st := fun x => absurd (Int.ofNat_lt.mpr x) (of_decide_eq_false h)
                  repeat walk_at "s"
                  intro gl
                  repeat walk_at "s"
                  refine gi_list (v := .str (mkS (if st = 0 then [32, 10, 92] else [34, 92]))) (by walk_at "mem") (by lia) ?_ (by decide) ?_
                  · rw [Int.toNat_natCast]
                    have : st = 0 ∨ st = 1 := by lia
                    rcases this with rfl | rfl
                    · rw [if_pos rfl, ← hs0]; rfl
                    · rw [if_neg (by decide), ← hs1]; rfl
                  refine op_in_str ?_
                  rw [sign_in]
                  refine tr_bool ⟨fun h2 => ?_, fun h2 => ?_⟩
                  · have h2' := of_decide_eq_true h2
                    exact ⟨by simp only [escG, h2', decide_true, Bool.or_true, Bool.true_or], .drop (.refl _)⟩
                  · have h2' := of_decide_eq_false h2
                    repeat walk_at "s"
                    rw [sg_is ce 34 q_sign]
                    refine ⟨fun h3 => ?_, fun h3 => ?_⟩
                    · have h3' := of_decide_eq_true h3
                      repeat walk_at "s"
                      refine ⟨fun h4 => ?_, fun h4 => ?_⟩
                      · have h4' : e = 0 := by simpa using h4
                        repeat walk_at "s"
                        refine ⟨fun h5 => ?_, fun h5 => nomatch h5⟩
                        exact ⟨by simp [escG, h3', h4'], .drop (.refl _)⟩
                      · have h4' : e ≠ 0 := by simpa using h4
                        refine ⟨fun h5 => (nomatch h5), fun _ => ?_⟩
                        repeat walk_at "s"
                        exact ⟨by simp only [escG, h', h2', h4', decide_false, Bool.and_false, Bool.or_false], .drop (.refl _)⟩
                    · have h3' := of_decide_eq_false h3
                      refine ⟨fun h5 => (nomatch h5), fun _ => ?_⟩
                      repeat walk_at "s"
                      exact ⟨by simp only [escG, h', h2', h3', decide_false, Bool.false_and, Bool.or_false], .drop (.refl _)⟩
              · refine ⟨fun h => ?_, fun h => ?_⟩
                · rw [h]
                  repeat walk_at "s"
                  exact ⟨by rw [b_sign]; rfl, .refl _⟩
                · rw [h]
                  repeat walk_at "s"
                  exact ⟨by rw [mkS_nil]; rfl, .refl _⟩
            · repeat walk_at "s"
              have hpl : (piecesG st w).length = w.length := by simp [piecesG]
              have hif : (if escG st e w[e] then [92] else [] : List Nat).length ≤ 1 := by split <;> simp
              refine op_add_str (by rw [mkS_len]; simp [Str.length]; lia) ?_
              rw [mkS_app]
              refine ⟨by simp; lia, _, by walk_at "upd", hew, ?_, _, _, rfl⟩
              have eg : w.getD e 0 = w[e] := by rw [List.getD_eq_getElem?_getD, List.getElem?_eq_getElem hew]; rfl
              rw [List.take_succ_eq_append_getElem (by lia)]
              simp only [strVs, List.map_append, List.map_cons, List.map_nil, piecesG, List.getElem_map, List.getElem_range, pieceG, eg]
          · right
            have FE := FE0
            have hew' : e = w.length := by lia
            subst hew'
            refine ⟨⟨none, by simp [signItem, fnItem, Str.length], rfl⟩, _, _, .head, ?_⟩
            have hpl : (piecesG st w).length = w.length := by simp [piecesG]
            rw [List.take_of_length_le (by lia)]
            have hpf := pieces_le st w
            have htl := textG_le (cs := cs) hwz i
            have hi20 : i < 20 := by lia
            have hil : i < (textG ws cs).length := by simp [textG]; lia
            have hone : (textG ws cs)[i] = oneG w cs[i] := by simp only [textG, List.getElem_zipWith, hwd]
            have htk : ((textG ws cs).take (i + 1)).flatten = ((textG ws cs).take i).flatten ++ oneG w cs[i] := by
              rw [List.take_succ_eq_append_getElem hil, List.flatten_append, hone]; simp
            have ej : strVs (piecesG st w) = ((piecesG st w).map mkS).map V.str := by simp [strVs]
            rw [ej]
            repeat walk_at "s"
            refine c_join (by walk_at "mem") (by rw [sum_len, empty_len, Nat.mul_zero]; lia) ?_
            rw [tjoin_mkS]
            generalize hbd : (piecesG st w).flatten = bd at hpf ⊢
            have hs34 : ("\"" : Str) = mkS [34] := by decide +kernel
            refine Op1.sub (.drop (.refl _)) ?_
            repeat walk_at "s"
            refine op_mod_int (by decide) ?_
            rw [show ((st : Nat) : Int).fmod 2 = ((st % 2 : Nat) : Int) from fmod_nat st 2]
            repeat walk_at "s"
            generalize htx : ((textG ws cs).take i).flatten = tx at htl htk ⊢
            refine ⟨fun h => ?_, fun h => ?_⟩
            · have h' : st % 2 = 1 := by
                rcases Nat.mod_two_eq_zero_or_one st with e | e
                · rw [e] at h; exact absurd h (by decide)
                · exact e
              have hws := wsQ_le mo
              repeat walk_at "s"
              rw [hs34]
              refine op_add_str (by simp only [mkS_len, List.length_cons, List.length_nil]; lia) ?_
              rw [mkS_app]
              repeat walk_at "s"
              refine op_add_str (by simp only [mkS_len, List.length_append, List.length_cons, List.length_nil]; lia) ?_
              rw [mkS_app]
              repeat walk_at "s"
              refine op_add_str (by simp only [mkS_len, List.length_append, List.length_cons, List.length_nil]; lia) ?_
              rw [mkS_app]
              repeat walk_at "s"
              intro gl
              repeat walk_at "s"
              refine gi_list (v := .str (mkS (wsQ mo))) (by walk_at "mem") (by lia) ?_ (by decide) ?_
              · rw [Int.toNat_natCast]
                have hcase : mo = 0 ∨ mo = 1 ∨ mo = 2 ∨ mo = 3 := by lia
                rcases hcase with e | e | e | e <;> rw [e] <;> exact congrArg (fun x => some (V.str x)) (by decide +kernel)
              refine Op2.sub (.drop (.refl _)) ?_
              refine op_add_str (by simp only [mkS_len, List.length_append, List.length_cons, List.length_nil]; lia) ?_
              rw [mkS_app]
              repeat walk_at "s"
              refine ⟨some (.int st), some (.str (mkS w)), some (.int (cs[i] : Nat)), some (.int mo), some (.str (mkS bd)), ?_⟩
              rw [htk, oneG, ← hwd, hst, if_pos h', hwd, hbd, hmm]
              simp only [List.append_assoc]
            · have h' : ¬ st % 2 = 1 := by
                rcases Nat.mod_two_eq_zero_or_one st with e | e
                · lia
                · rw [e] at h; exact absurd h (by decide)
              have hws := wsB_le mo
              repeat walk_at "s"
              refine op_add_str (by simp only [mkS_len]; lia) ?_
              rw [mkS_app]
              repeat walk_at "s"
              intro gl
              repeat walk_at "s"
              refine gi_list (v := .str (mkS (wsB mo))) (by walk_at "mem") (by lia) ?_ (by decide) ?_
              · rw [Int.toNat_natCast]
                have hcase : mo = 0 ∨ mo = 1 ∨ mo = 2 ∨ mo = 3 := by lia
                rcases hcase with e | e | e | e <;> rw [e] <;> exact congrArg (fun x => some (V.str x)) (by decide +kernel)
              refine Op2.sub (.drop (.refl _)) ?_
              refine op_add_str (by simp only [mkS_len, List.length_append]; lia) ?_
              rw [mkS_app]
              repeat walk_at "s"
              refine ⟨some (.int st), some (.str (mkS w)), some (.int (cs[i] : Nat)), some (.int mo), some (.str (mkS bd)), ?_⟩
              rw [htk, oneG, ← hwd, hst, if_neg h', hwd, hbd, hmm]
              simp only [List.append_assoc]
      · right
        refine ⟨⟨strVs ws, natVs cs, by walk_at "mem", by walk_at "mem", .inr ⟨by simp; lia, rfl⟩⟩, ?_⟩
        have hall : (textG ws cs).take i = textG ws cs := List.take_of_length_le (by simp [textG]; lia)
        rw [hall]
        replace G := W.G
        repeat walk_at "s"
        exact ⟨H, .drop (.drop (.refl _)), q⟩
end
end
noncomputable section
/-- hex figures, the lowest first -/
noncomputable def hxd (n : Nat) : List Nat := if h : n = 0 then [] else n % 16 :: hxd (n / 16)
decreasing_by lia
theorem hxd_zero : hxd 0 = [] := by rw [hxd]; rfl
theorem hxd_pos {n : Nat} (h : n ≠ 0) : hxd n = n % 16 :: hxd (n / 16) := by rw [hxd, dif_neg h]
noncomputable def vl : List Nat → Nat
  | [] => 0
  | d :: ds => d + 16 * vl ds
theorem vl_hxd (n : Nat) : vl (hxd n) = n := by
  induction n using Nat.strongRecOn with
  | _ n ih =>
    by_cases h : n = 0
    · subst h; rw [hxd_zero]; rfl
    · rw [hxd_pos h, vl, ih (n / 16) (by lia)]; lia
theorem hxd_lt (n : Nat) : ∀ d ∈ hxd n, d < 16 := by
  induction n using Nat.strongRecOn with
  | _ n ih =>
    by_cases h : n = 0
    · subst h; rw [hxd_zero]; simp
    · rw [hxd_pos h]
      intro d hd
      rcases List.mem_cons.mp hd with rfl | hd
      · exact Nat.mod_lt _ (by decide)
      · exact ih (n / 16) (by lia) d hd
theorem hxd_len : ∀ (k n : Nat), n < 16 ^ k → (hxd n).length ≤ k
  | 0, n, h => by
    have : n = 0 := by simpa using h
    subst this; rw [hxd_zero]; simp
  | k + 1, n, h => by
    by_cases h0 : n = 0
    · subst h0; rw [hxd_zero]; simp
    · rw [hxd_pos h0]
      have := hxd_len k (n / 16) (by rw [Nat.pow_succ] at h; lia)
      simp; lia
theorem vl_lt : ∀ {l : List Nat}, (∀ d ∈ l, d < 16) → vl l < 16 ^ l.length
  | [], _ => by simp [vl]
  | d :: l, h => by
    have h1 := h d (.head _)
    have h2 := vl_lt (l := l) fun e he => h e (.tail _ he)
    rw [vl, List.length_cons, Nat.pow_succ]; lia
theorem hxd_vl_app : ∀ {l : List Nat} {s : Nat}, (∀ d ∈ l, d < 16) → s ≠ 0 → hxd (vl (l ++ [s])) = l ++ hxd s
  | [], s, _, hs => by simp [vl]
  | d :: l, s, h, hs => by
    have h1 := h d (.head _)
    have ih := hxd_vl_app (l := l) (s := s) (fun e he => h e (.tail _ he)) hs
    have hne : vl (l ++ [s]) ≠ 0 := by
      intro e; rw [e, hxd_zero, hxd_pos hs] at ih
      have := congrArg List.length ih
      simp at this
    rw [List.cons_append, vl, hxd_pos (by lia)]
    have e1 : (d + 16 * vl (l ++ [s])) % 16 = d := by lia
    have e2 : (d + 16 * vl (l ++ [s])) / 16 = vl (l ++ [s]) := by lia
    rw [e1, e2, ih]; rfl
theorem apL_hxd (n : Nat) : apL n = (hxd n).reverse.map fun d => UInt8.ofNat (65 + d) := by
  induction n using Nat.strongRecOn with
  | _ n ih =>
    by_cases h : n = 0
    · subst h; rw [apL_zero, hxd_zero]; rfl
    · rw [apL_pos h, hxd_pos h, ih (n / 16) (by lia)]; simp
theorem wordL_hxd (n : Nat) : wordL n = (hxd n).reverse.map fun d => 65 + d := by
  rw [wordL, apL_hxd, List.map_map]
  refine List.map_congr_left fun d hd => ?_
  have := hxd_lt n d (List.mem_reverse.mp hd)
  show (UInt8.ofNat (65 + d)).toNat = 65 + d
  rw [UInt8.toNat_ofNat']; lia
theorem hxd_top {n : Nat} (h : n ≠ 0) : ∃ l t, hxd n = l ++ [t] ∧ t ≠ 0 := by
  induction n using Nat.strongRecOn with
  | _ n ih =>
    rw [hxd_pos h]
    by_cases h0 : n / 16 = 0
    · rw [h0, hxd_zero]; exact ⟨[], n % 16, rfl, by lia⟩
    · obtain ⟨l, t, e, ht⟩ := ih (n / 16) (by lia) h0
      exact ⟨n % 16 :: l, t, by rw [e]; rfl, ht⟩
theorem hxd_ge {n : Nat} (h : n ≠ 0) : 16 ^ ((hxd n).length - 1) ≤ n := by
  induction n using Nat.strongRecOn with
  | _ n ih =>
    rw [hxd_pos h, List.length_cons, Nat.add_sub_cancel]
    by_cases h0 : n / 16 = 0
    · rw [h0, hxd_zero]; simp; lia
    · have h1 := ih (n / 16) (by lia) h0
      have hl : (hxd (n / 16)).length = ((hxd (n / 16)).length - 1) + 1 := by rw [hxd_pos h0]; simp
      rw [hl, Nat.pow_succ]; lia
theorem ndig_hxd (n : Nat) : ndig n 4 = (hxd n).length := by
  have p16 : ∀ k, (2 : Nat) ^ (4 * k) = 16 ^ k := fun k => by rw [Nat.pow_mul]
  have h1 : ndig n 4 ≤ (hxd n).length := ndig_le (by decide) (by rw [p16]; have := vl_lt (hxd_lt n); rw [vl_hxd] at this; exact this)
  have h2 := lt_ndig (x := n) (n := 4) (by decide)
  rw [p16] at h2
  by_cases h : n = 0
  · subst h; rw [hxd_zero] at h1 ⊢; simpa using h1
  · have h3 := hxd_ge h
    have h4 : (hxd n).length ≠ 0 := by rw [hxd_pos h]; simp
    have h5 : (hxd n).length - 1 < ndig n 4 := by
      refine Nat.lt_of_not_le fun hc => ?_
      have := Nat.pow_le_pow_right (n := 16) (by decide) hc
      lia
    lia
theorem digs_hxd (n : Nat) : digs n 4 (ndig n 4) = hxd n := by
  rw [ndig_hxd]
  have key : ∀ (k : Nat) (n : Nat), (hxd n).length = k → digs n 4 k = hxd n := by
    intro k
    induction k with
    | zero =>
      intro n h
      have : hxd n = [] := List.length_eq_zero_iff.mp h
      rw [this]; rfl
    | succ k ih =>
      intro n h
      have hn : n ≠ 0 := by intro e; subst e; rw [hxd_zero] at h; simp at h
      rw [hxd_pos hn] at h ⊢
      rw [← ih (n / 16) (by simpa using h)]
      unfold digs
      rw [List.range_succ_eq_map, List.map_cons, List.map_map]
      congr 1
      · simp
      · refine List.map_congr_left fun i _ => ?_
        show n / 2 ^ (4 * (i + 1)) % 2 ^ 4 = n / 16 / 2 ^ (4 * i) % 2 ^ 4
        rw [Nat.div_div_eq_div_mul, Nat.mul_add, Nat.pow_add, Nat.mul_comm (2 ^ (4 * i))]
  exact key _ n rfl
theorem d2i_vl : ∀ l : List Nat, d2i 4 (l.map Int.ofNat) = ((vl l : Nat) : Int)
  | [] => rfl
  | d :: l => by
    rw [List.map_cons, d2i, d2i_vl l, vl]
    push_cast
    rfl
/-- letters read behind a state -/
noncomputable def pn (s : Nat) (l : List Nat) : Nat := l.foldl (fun s d => 16 * s + d) s
theorem pn_app (s : Nat) (l m : List Nat) : pn s (l ++ m) = pn (pn s l) m := by unfold pn; rw [List.foldl_append]
theorem pn_snoc (s : Nat) (l : List Nat) (d : Nat) : pn s (l ++ [d]) = 16 * pn s l + d := by rw [pn_app]; rfl
theorem pn_cons (s d : Nat) (l : List Nat) : pn s (d :: l) = pn (16 * s + d) l := rfl
theorem pn_ge (s : Nat) (l : List Nat) : s ≤ pn s l := by
  induction l generalizing s with
  | nil => exact Nat.le_refl _
  | cons d l ih => rw [pn_cons]; have := ih (16 * s + d); lia
theorem pn_rev (s : Nat) : ∀ m : List Nat, pn s m.reverse = vl (m ++ [s])
  | [] => by simp [pn, vl]
  | d :: m => by rw [List.reverse_cons, pn_snoc, pn_rev s m, List.cons_append, vl]; lia
theorem pn_vl (s : Nat) (l : List Nat) : pn s l = vl (l.reverse ++ [s]) := by
  have := pn_rev s l.reverse
  rwa [List.reverse_reverse] at this
theorem vl_snoc0 (l : List Nat) : vl (l ++ [0]) = vl l := by
  induction l with
  | nil => rfl
  | cons d l ih => rw [List.cons_append, vl, vl, ih]
theorem pn0 (l : List Nat) : pn 0 l = vl l.reverse := by rw [pn_vl, vl_snoc0]
theorem hxd_pn0 {l : List Nat} (h : ∀ d ∈ l, d < 16) (h0 : ∀ d r, l = d :: r → d ≠ 0) : hxd (pn 0 l) = l.reverse := by
  cases l with
  | nil => exact hxd_zero
  | cons d r =>
    rw [pn0, List.reverse_cons]
    have hd := h0 d r rfl
    rw [hxd_vl_app (fun e he => h e (.tail _ (List.mem_reverse.mp he))) hd, hxd_pos hd]
    have : d / 16 = 0 := by have := h d (.head _); lia
    have h2 : d % 16 = d := Nat.mod_eq_of_lt (h d (.head _))
    rw [this, hxd_zero, h2]
end
noncomputable section
-- take and put
theorem takeG_split (low : Nat) : ∀ (s : Nat) (ds : List Nat), ∃ e r, ds = e ++ r ∧ takeG low s ds = (pn s e, r) ∧ (low ≤ pn s e ∨ r = [])
  | s, [] => ⟨[], [], rfl, rfl, .inr rfl⟩
  | s, d :: ds => by
    by_cases h : low ≤ s
    · exact ⟨[], d :: ds, rfl, takeG_stop h, .inl h⟩
    · obtain ⟨e, r, h1, h2, h3⟩ := takeG_split low (16 * s + d) ds
      exact ⟨d :: e, r, by rw [h1]; rfl, by rw [takeG_go h, h2]; rfl, h3⟩
theorem takeG_lt2 {low : Nat} : ∀ {s : Nat} {ds : List Nat}, s < 16 * low → (∀ d ∈ ds, d < 16) → (takeG low s ds).1 < 16 * low := fun h h2 => (takeG_lt (Nat.le_refl _) h h2).1
theorem put_take {b : Nat} : ∀ (m : List Nat) (fuel s : Nat), b ≤ s → s < 16 * b → (∀ d ∈ m, d < 16) → m.length ≤ fuel → putG (16 * b) fuel (pn s m.reverse) = (s, m)
  | [], fuel, s, h1, h2, _, _ => by
    cases fuel with
    | zero => rfl
    | succ k => show putG (16 * b) (k + 1) s = _; rw [putG, if_pos h2]
  | d :: m, 0, s, _, _, _, h => by simp at h
  | d :: m, k + 1, s, h1, h2, h3, h4 => by
    have hd := h3 d (.head _)
    have ih := put_take m k s h1 h2 (fun e he => h3 e (.tail _ he)) (by simpa using h4)
    have hge : b ≤ pn s m.reverse := Nat.le_trans h1 (pn_ge _ _)
    rw [List.reverse_cons, pn_snoc, putG, if_neg (by lia)]
    have e1 : (16 * pn s m.reverse + d) / 16 = pn s m.reverse := by lia
    have e2 : (16 * pn s m.reverse + d) % 16 = d := by lia
    rw [e1, e2, ih]
theorem take_put {low : Nat} : ∀ (g : List Nat) (y : Nat) (r : List Nat), low ≤ pn y g → pn y g < 16 * low → takeG low y (g ++ r) = (pn y g, r)
  | [], y, r, h1, _ => takeG_stop h1
  | d :: g, y, r, h1, h2 => by
    have h3 : 16 * y + d ≤ pn y (d :: g) := pn_ge (16 * y + d) g
    rw [List.cons_append, takeG_go (by lia)]
    exact take_put g (16 * y + d) r h1 h2
theorem putG_spec {lim : Nat} : ∀ (fuel t : Nat), t < 16 ^ fuel → 1 ≤ lim → pn (putG lim fuel t).1 (putG lim fuel t).2.reverse = t ∧ (putG lim fuel t).1 < lim ∧ (∀ d ∈ (putG lim fuel t).2, d < 16) ∧ (∀ b, lim = 16 * b → b ≤ t → b ≤ (putG lim fuel t).1)
  | 0, t, h, hl => by
    have : t = 0 := by simpa using h
    subst this
    exact ⟨rfl, hl, by simp [putG], fun b _ h => h⟩
  | k + 1, t, h, hl => by
    rw [putG]
    by_cases h1 : t < lim
    · rw [if_pos h1]; exact ⟨rfl, h1, by simp, fun b _ h => h⟩
    · rw [if_neg h1]
      obtain ⟨a1, a2, a3, a4⟩ := putG_spec k (t / 16) (by rw [Nat.pow_succ] at h; lia) hl
      refine ⟨?_, a2, ?_, fun b hb hbt => a4 b hb (by lia)⟩
      · dsimp only
        rw [List.reverse_cons, pn_snoc, a1]; lia
      · intro d hd
        rcases List.mem_cons.mp hd with rfl | hd
        · exact Nat.mod_lt _ (by decide)
        · exact a3 d hd
theorem putG_short {lim : Nat} (hl : 1 ≤ lim) : ∀ (fuel t j : Nat), t < 16 ^ j → (putG lim fuel t).2.length ≤ j
  | 0, t, j, _ => by simp [putG]
  | k + 1, t, j, h => by
    rw [putG]
    by_cases h1 : t < lim
    · rw [if_pos h1]; simp
    · rw [if_neg h1]
      cases j with
      | zero => simp at h; lia
      | succ j =>
        have := putG_short hl k (t / 16) j (by rw [Nat.pow_succ] at h; lia)
        simpa using this
-- a word's step and its way back
theorem getD_lt {tb : List (List Nat)} {p : Nat} (h : p < tb.length) : tb.getD p [] = tb[p] := by rw [List.getD_eq_getElem?_getD, List.getElem?_eq_getElem h]; rfl
theorem posns_app (tb : List (List Nat)) (w : List Nat) (m : Nat) : ∀ n, ∃ r, posns tb w (m + n) = posns tb w m ++ r
  | 0 => ⟨[], by simp⟩
  | n + 1 => by
    obtain ⟨r, h⟩ := posns_app tb w m n
    rw [← Nat.add_assoc, posns_succ, h]
    exact ⟨_, List.append_assoc ..⟩
theorem posns_rk {tb : List (List Nat)} {p : Nat} (h : p < tb.length) : (posns tb (tb.getD p []) tb.length).getD (rk tb p) 0 = p := by
  obtain ⟨r, hr⟩ := posns_app tb (tb.getD p []) (p + 1) (tb.length - (p + 1))
  have e : p + 1 + (tb.length - (p + 1)) = tb.length := by lia
  rw [e, posns_succ, if_pos rfl] at hr
  have hl := posns_len tb (tb.getD p []) p (by lia)
  rw [hr]
  unfold rk
  rw [← hl, List.getD_eq_getElem?_getD, List.append_assoc, List.getElem?_append_right (Nat.le_refl _), Nat.sub_self]; rfl
theorem rk_lt {tb : List (List Nat)} {p : Nat} (h : p < tb.length) : rk tb p < tb.count (tb.getD p []) := by
  unfold rk
  have e := getD_lt h
  have h1 : (tb.take (p + 1)).count (tb.getD p []) ≤ tb.count (tb.getD p []) := List.Sublist.count_le _ (List.take_sublist _ _)
  rw [List.take_succ_eq_append_getElem h, List.count_append, e] at h1
  rw [e]
  simp at h1
  lia
theorem up_dn {tb : List (List Nat)} (h : tb ≠ []) (s : Nat) : upT tb (tb.getD (s % tb.length) []) (dn tb s) = s := by
  have hp : s % tb.length < tb.length := Nat.mod_lt _ (List.length_pos_iff.mpr h)
  have hr := rk_lt hp
  unfold upT dn
  rw [Nat.mul_add_div (by lia), Nat.mul_add_mod, Nat.div_eq_of_lt hr, Nat.mod_eq_of_lt hr, posns_rk hp, Nat.add_zero, Nat.mul_comm]
  exact Nat.div_add_mod s tb.length
theorem dn_up {tb : List (List Nat)} {w : List Nat} (hw : w ∈ tb) (y : Nat) : dn tb (upT tb w y) = y ∧ tb.getD (upT tb w y % tb.length) [] = w := by
  have hc : 0 < tb.count w := List.count_pos_iff.mpr hw
  have hlen := posns_len tb w tb.length (Nat.le_refl _)
  rw [List.take_length] at hlen
  have hi : y % tb.count w < (posns tb w tb.length).length := by rw [hlen]; exact Nat.mod_lt _ hc
  have hg : (posns tb w tb.length).getD (y % tb.count w) 0 = (posns tb w tb.length)[y % tb.count w] := by rw [List.getD_eq_getElem?_getD, List.getElem?_eq_getElem hi]; rfl
  have hm := List.getElem_mem hi
  generalize hpd : (posns tb w tb.length)[y % tb.count w] = p at hg hm
  have hm2 := List.mem_filter.mp (by unfold posns at hm; exact hm)
  have hp : p < tb.length := List.mem_range.mp hm2.1
  have hpw : tb.getD p [] = w := of_decide_eq_true hm2.2
  have hL : 0 < tb.length := by lia
  have e1 : upT tb w y = tb.length * (y / tb.count w) + p := by unfold upT; rw [hg, Nat.mul_comm]
  have e2 : upT tb w y % tb.length = p := by rw [e1, Nat.mul_add_mod, Nat.mod_eq_of_lt hp]
  have e3 : upT tb w y / tb.length = y / tb.count w := by rw [e1, Nat.mul_add_div hL, Nat.div_eq_of_lt hp, Nat.add_zero]
  -- the rank of p among the places is y % count
  have hrk : rk tb p = y % tb.count w := by
    obtain ⟨r, hr⟩ := posns_app tb w (p + 1) (tb.length - (p + 1))
    rw [show p + 1 + (tb.length - (p + 1)) = tb.length by lia, posns_succ, if_pos hpw] at hr
    have hl := posns_len tb w p (by lia)
    have hrke : rk tb p = (posns tb w p).length := by unfold rk; rw [hpw, hl]
    have hnd : (posns tb w tb.length).Nodup := List.Nodup.sublist List.filter_sublist List.nodup_range
    have hlt2 : (posns tb w p).length < (posns tb w tb.length).length := by rw [hr]; simp
    have h2 : (posns tb w tb.length)[(posns tb w p).length]'hlt2 = p := by
      simp only [hr]
      rw [List.getElem_append_left (by simp)]
      rw [List.getElem_append_right (Nat.le_refl _)]
      simp
    rw [hrke]
    have hpw2 := List.pairwise_iff_getElem.mp hnd
    rcases Nat.lt_trichotomy (posns tb w p).length (y % tb.count w) with h | h | h
    · exact absurd (by rw [h2, hpd]) (hpw2 _ _ hlt2 hi h)
    · exact h
    · exact absurd (by rw [h2, hpd]) (hpw2 _ _ hi hlt2 h)
  refine ⟨?_, by rw [e2, hpw]⟩
  unfold dn
  rw [e2, e3, hpw, hrk, Nat.mul_comm]
  rw [Nat.mul_comm]
  exact Nat.div_add_mod y (tb.count w)
end
noncomputable section
theorem inG_snoc (sc : Nat) (tb : List (List Nat)) (w : List Nat) : ∀ (xs : List (List Nat)) (s : Nat),
    inG sc tb (xs ++ [w]) s = (upT tb w (putG (16 * sc * tb.count w) 99 (inG sc tb xs s).1).1, (inG sc tb xs s).2 ++ (putG (16 * sc * tb.count w) 99 (inG sc tb xs s).1).2)
  | [], s => by simp [inG]
  | x :: xs, s => by
    rw [List.cons_append, inG, inG_snoc sc tb w xs, inG]
    simp only [List.append_assoc]
theorem dn_range {sc : Nat} {tb : List (List Nat)} (h : tb ≠ []) {s : Nat} (h1 : sc * tb.length ≤ s) (h2 : s < 16 * (sc * tb.length)) :
    sc * tb.count (tb.getD (s % tb.length) []) ≤ dn tb s ∧ dn tb s < 16 * (sc * tb.count (tb.getD (s % tb.length) [])) := by
  have hL := List.length_pos_iff.mpr h
  have hp : s % tb.length < tb.length := Nat.mod_lt _ hL
  have hr := rk_lt hp
  have q1 : sc ≤ s / tb.length := (Nat.le_div_iff_mul_le hL).mpr h1
  have q2 : s / tb.length < 16 * sc := (Nat.div_lt_iff_lt_mul hL).mpr (by rw [Nat.mul_assoc]; exact h2)
  unfold dn
  generalize tb.count (tb.getD (s % tb.length) []) = c at hr ⊢
  generalize s / tb.length = q at q1 q2 ⊢
  generalize rk tb (s % tb.length) = r at hr ⊢
  have m1 := Nat.mul_le_mul_left c q1
  have m2 := Nat.mul_le_mul_left c (show q + 1 ≤ 16 * sc from q2)
  have e1 : c * (16 * sc) = 16 * (sc * c) := by rw [Nat.mul_left_comm, Nat.mul_comm c sc]
  have e2 : c * sc = sc * c := Nat.mul_comm ..
  rw [Nat.mul_add, Nat.mul_one] at m2
  lia
theorem ans_fwd {sc : Nat} {tb : List (List Nat)} (htb : tb ≠ []) : ∀ (m s : Nat) (ds : List Nat) (s' : Nat) (told : List (List Nat)) (ds' : List Nat), s < 16 * (sc * tb.length) → (∀ d ∈ ds, d < 16) → ds.length ≤ 99 →
    outG (sc * tb.length) tb m s ds = (s', told, ds') → ∃ e f, ds = e ++ (f ++ ds') ∧ inG sc tb told.reverse s' = (pn s e, f.reverse) ∧ ∀ w ∈ told, w ∈ tb
  | 0, s, ds, s', told, ds', _, _, _, h => by
    rw [outG] at h
    simp only [Prod.mk.injEq] at h
    obtain ⟨rfl, rfl, rfl⟩ := h
    exact ⟨[], [], rfl, rfl, by simp⟩
  | m + 1, s, ds, s', told, ds', hs, hd, hl, h => by
    rw [outG] at h
    have hlt := takeG_lt2 hs hd
    obtain ⟨e, r, h1, h2, h3⟩ := takeG_split (sc * tb.length) s ds
    rw [h2] at h hlt
    dsimp only at h hlt
    by_cases hc : pn s e < sc * tb.length
    · rw [if_pos hc] at h
      simp only [Prod.mk.injEq] at h
      obtain ⟨rfl, rfl, rfl⟩ := h
      exact ⟨e, [], by simpa using h1, rfl, by simp⟩
    · rw [if_neg hc] at h
      have hge : sc * tb.length ≤ pn s e := Nat.le_of_not_lt hc
      obtain ⟨r1, r2⟩ := dn_range htb hge hlt
      generalize ho : outG (sc * tb.length) tb m (dn tb (pn s e)) r = o at h
      obtain ⟨o1, o2, o3⟩ := o
      simp only [Prod.mk.injEq] at h
      obtain ⟨rfl, rfl, rfl⟩ := h
      have hdr : ∀ d ∈ r, d < 16 := fun d hd' => hd d (by rw [h1]; exact List.mem_append_right _ hd')
      have hlr : r.length ≤ 99 := by rw [h1] at hl; simp at hl; lia
      obtain ⟨e2, f2, k1, k2, k3⟩ := ans_fwd htb m (dn tb (pn s e)) r o1 o2 o3 (Nat.lt_of_le_of_lt (dn_le htb _) hlt) hdr hlr ho
      have hp : pn s e % tb.length < tb.length := Nat.mod_lt _ (List.length_pos_iff.mpr htb)
      refine ⟨e, e2 ++ f2, by rw [h1, k1]; simp, ?_, ?_⟩
      · rw [List.reverse_cons, inG_snoc, k2]
        dsimp only
        have hput := put_take (b := sc * tb.count (tb.getD (pn s e % tb.length) [])) e2.reverse 99 (dn tb (pn s e)) r1 r2
          (fun d hd' => hdr d (by rw [k1]; exact List.mem_append_left _ (List.mem_reverse.mp hd'))) (by rw [k1] at hlr; simp at hlr ⊢; lia)
        rw [List.reverse_reverse, ← Nat.mul_assoc] at hput
        rw [hput]
        dsimp only
        rw [up_dn htb, List.reverse_append]
      · intro w hw
        rcases List.mem_cons.mp hw with rfl | hw
        · rw [getD_lt hp]; exact List.getElem_mem hp
        · exact k3 w hw
theorem up_range {sc : Nat} {tb : List (List Nat)} {w : List Nat} (hw : w ∈ tb) {y : Nat} (h1 : sc * tb.count w ≤ y) (h2 : y < 16 * (sc * tb.count w)) : sc * tb.length ≤ upT tb w y ∧ upT tb w y < 16 * (sc * tb.length) := by
  have hc : 0 < tb.count w := List.count_pos_iff.mpr hw
  have hlen := posns_len tb w tb.length (Nat.le_refl _)
  rw [List.take_length] at hlen
  have hi : y % tb.count w < (posns tb w tb.length).length := by rw [hlen]; exact Nat.mod_lt _ hc
  have hp : (posns tb w tb.length).getD (y % tb.count w) 0 < tb.length := by
    rw [List.getD_eq_getElem?_getD, List.getElem?_eq_getElem hi]
    have := List.getElem_mem hi
    unfold posns at this
    exact List.mem_range.mp (List.mem_filter.mp this).1
  have q1 : sc ≤ y / tb.count w := (Nat.le_div_iff_mul_le hc).mpr h1
  have q2 : y / tb.count w < 16 * sc := (Nat.div_lt_iff_lt_mul hc).mpr (by rw [Nat.mul_assoc]; exact h2)
  unfold upT
  generalize (posns tb w tb.length).getD (y % tb.count w) 0 = p at hp ⊢
  generalize y / tb.count w = q at q1 q2 ⊢
  have m1 := Nat.mul_le_mul_right tb.length q1
  have m2 := Nat.mul_le_mul_right tb.length (show q + 1 ≤ 16 * sc from q2)
  rw [Nat.add_mul, Nat.one_mul, Nat.mul_assoc] at m2
  lia
theorem ans_back {sc : Nat} {tb : List (List Nat)} (htb : tb ≠ []) (hsc : 1 ≤ sc) (hz : 16 * (sc * tb.length) ≤ 16 ^ 2) : ∀ (ws : List (List Nat)) (t₀ : Nat), (∀ w ∈ ws, w ∈ tb) → sc * tb.length ≤ t₀ → t₀ < 16 * (sc * tb.length) →
    (sc * tb.length ≤ (inG sc tb ws.reverse t₀).1 ∧ (inG sc tb ws.reverse t₀).1 < 16 * (sc * tb.length) ∧ (∀ d ∈ (inG sc tb ws.reverse t₀).2, d < 16) ∧ (inG sc tb ws.reverse t₀).2.length ≤ 2 * ws.length) ∧
    ∀ (x : Nat) (ds rest : List Nat), takeG (sc * tb.length) x ds = ((inG sc tb ws.reverse t₀).1, (inG sc tb ws.reverse t₀).2.reverse ++ rest) →
      ∃ s₂ ds₂, outG (sc * tb.length) tb ws.length x ds = (s₂, ws, ds₂) ∧ takeG (sc * tb.length) s₂ ds₂ = (t₀, rest)
  | [], t₀, _, h1, h2 => ⟨⟨h1, h2, by simp [inG], by simp [inG]⟩, fun x ds rest h => ⟨x, ds, rfl, h⟩⟩
  | w :: ws, t₀, hw, h1, h2 => by
    obtain ⟨⟨a1, a2, a3, a4⟩, a5⟩ := ans_back htb hsc hz ws t₀ (fun v hv => hw v (.tail _ hv)) h1 h2
    have hwt := hw w (.head _)
    have hc : 0 < tb.count w := List.count_pos_iff.mpr hwt
    have hcl : tb.count w ≤ tb.length := List.count_le_length
    rw [List.reverse_cons, inG_snoc]
    generalize inG sc tb ws.reverse t₀ = r at a1 a2 a3 a4 a5 ⊢
    obtain ⟨t, l⟩ := r
    dsimp only at a1 a2 a3 a4 a5 ⊢
    have hb1 : 1 ≤ sc * tb.count w := Nat.mul_pos hsc hc
    have elim : 16 * sc * tb.count w = 16 * (sc * tb.count w) := Nat.mul_assoc ..
    have hbl : sc * tb.count w ≤ sc * tb.length := Nat.mul_le_mul_left _ hcl
    obtain ⟨p1, p2, p3, p4⟩ := putG_spec (lim := 16 * sc * tb.count w) 99 t (Nat.lt_of_lt_of_le a2 (Nat.le_trans hz (Nat.pow_le_pow_right (by decide) (by decide)))) (by rw [elim]; lia)
    have p5 := putG_short (lim := 16 * sc * tb.count w) (by rw [elim]; lia) 99 t 2 (by lia)
    have p6 := p4 _ elim (by lia)
    generalize putG (16 * sc * tb.count w) 99 t = pr at p1 p2 p3 p4 p5 p6 ⊢
    obtain ⟨y, e⟩ := pr
    dsimp only at p1 p2 p3 p5 p6 ⊢
    rw [elim] at p2
    obtain ⟨u1, u2⟩ := up_range hwt p6 p2
    obtain ⟨d1, d2⟩ := dn_up hwt y
    refine ⟨⟨u1, u2, ?_, by simp; lia⟩, ?_⟩
    · intro d hd
      rcases List.mem_append.mp hd with hd | hd
      · exact a3 d hd
      · exact p3 d hd
    · intro x ds rest hx
      obtain ⟨s₂, ds₂, b1, b2⟩ := a5 y (e.reverse ++ (l.reverse ++ rest)) rest (by
        rw [take_put e.reverse y (l.reverse ++ rest) (by rw [p1]; exact a1) (by rw [p1]; exact a2), p1])
      refine ⟨s₂, ds₂, ?_, b2⟩
      rw [List.length_cons, outG, hx]
      dsimp only
      rw [if_neg (by lia), d1, d2, List.reverse_append, List.append_assoc, b1]
/-- a message of a table's own words, there and back -/
theorem ans_msg {sc : Nat} {tb : List (List Nat)} (htb : tb ≠ []) (hsc : 1 ≤ sc) (hz : 16 * (sc * tb.length) ≤ 16 ^ 2) (hl6 : tb.length ≤ 6) {t₀ : Nat} (h1 : sc * tb.length ≤ t₀) (h2 : t₀ < 16 * (sc * tb.length)) :
    ∃ T : Nat, d2i 4 (((inG sc tb tb.reverse t₀).2 ++ [(inG sc tb tb.reverse t₀).1]).map Int.ofNat) = (T : Int) ∧ T < 16 ^ 14 ∧
      ∃ s₂ ds₂, outG (sc * tb.length) tb tb.length 0 (hxd T).reverse = (s₂, tb, ds₂) ∧ takeG (sc * tb.length) s₂ ds₂ = (t₀, []) := by
  obtain ⟨⟨a1, a2, a3, a4⟩, a5⟩ := ans_back htb hsc hz tb t₀ (fun w hw => hw) h1 h2
  have hL := List.length_pos_iff.mpr htb
  have hpos : 1 ≤ sc * tb.length := Nat.mul_pos hsc hL
  generalize inG sc tb tb.reverse t₀ = r at a1 a2 a3 a4 a5 ⊢
  obtain ⟨s, l⟩ := r
  dsimp only at a1 a2 a3 a4 a5 ⊢
  refine ⟨vl (l ++ [s]), d2i_vl _, ?_, ?_⟩
  · have hh := hxd_vl_app a3 (show s ≠ 0 by lia)
    have hlen : (hxd (vl (l ++ [s]))).length ≤ 14 := by
      rw [hh, List.length_append]
      have := hxd_len 2 s (by lia)
      lia
    have h3 := vl_lt (hxd_lt (vl (l ++ [s])))
    rw [vl_hxd] at h3
    exact Nat.lt_of_lt_of_le h3 (Nat.pow_le_pow_right (by decide) hlen)
  · rw [hxd_vl_app a3 (show s ≠ 0 by lia), List.reverse_append]
    refine a5 0 _ [] ?_
    have hp : pn 0 (hxd s).reverse = s := by rw [pn0, List.reverse_reverse, vl_hxd]
    rw [take_put _ 0 _ (by rw [hp]; exact a1) (by rw [hp]; exact a2), hp, List.append_nil]
end
noncomputable section
noncomputable def nl (l : List Nat) : Int := (l.count 10 : Nat)
theorem trip {α β : Type} {a : α} {b : β} {z z' : Int} (h : z = z') : (a, b, z) = (a, b, z') := by rw [h]
theorem nl_nil : nl [] = 0 := rfl
theorem nl_app (l m : List Nat) : nl (l ++ m) = nl l + nl m := by unfold nl; rw [List.count_append]; push_cast; rfl
theorem nl_cons (c : Nat) (l : List Nat) : nl (c :: l) = lnN (nl l) c := by
  unfold nl lnN
  by_cases h : c = 10
  · subst h; simp
  · rw [if_neg h, List.count_cons_of_ne (by lia)]
noncomputable def pc (p : Bool × Nat) : List Nat := (if p.1 then [92] else []) ++ [p.2]
noncomputable def psG (st : Nat) (w : List Nat) : List (Bool × Nat) := (List.range w.length).map fun k => (escG st k (w.getD k 0), w.getD k 0)
theorem psG_pc (st : Nat) (w : List Nat) : (psG st w).map pc = piecesG st w := by
  unfold psG piecesG
  rw [List.map_map]; rfl
theorem psG_snd (st : Nat) (w : List Nat) : (psG st w).map Prod.snd = w := by
  unfold psG
  rw [List.map_map]
  refine List.ext_getElem (by simp) fun i h1 h2 => ?_
  simp only [List.getElem_map, List.getElem_range, Function.comp]
  rw [List.getD_eq_getElem?_getD, List.getElem?_eq_getElem h2]; rfl
theorem nl_pcs : ∀ ps : List (Bool × Nat), nl ((ps.map pc).flatten) = nl (ps.map Prod.snd)
  | [] => rfl
  | (b, s) :: ps => by
    rw [List.map_cons, List.flatten_cons, nl_app, nl_pcs ps, List.map_cons, nl_cons]
    have : nl (pc (b, s)) = lnN 0 s := by
      cases b
      · show nl [s] = _; rw [nl_cons]; rfl
      · show nl [92, s] = _; rw [nl_cons, nl_cons]; unfold lnN; simp [nl_nil]
    rw [this]
    unfold lnN; split <;> lia
theorem qLem : ∀ (ps : List (Bool × Nat)) (tok r : List Nat) (n : Int), (∀ p ∈ ps, p.1 = false → p.2 ≠ 34 ∧ p.2 ≠ 92) → qGo tok ((ps.map pc).flatten ++ 34 :: r) n = (tok ++ ps.map Prod.snd, r, n + nl (ps.map Prod.snd))
  | [], tok, r, n, _ => by
    show qGo tok (34 :: r) n = _
    rw [qGo_q]; simp [nl_nil]
  | (b, s) :: ps, tok, r, n, h => by
    have ih := qLem ps (tok ++ [s]) r (lnN n s) fun p hp => h p (.tail _ hp)
    have e : qGo tok (((b, s) :: ps).map pc |>.flatten.append (34 :: r)) n = qGo (tok ++ [s]) ((ps.map pc).flatten ++ 34 :: r) (lnN n s) := by
      cases b
      · obtain ⟨h1, h2⟩ := h (false, s) (.head _) rfl
        exact qGo_b h1 h2
      · exact qGo_e
    show qGo tok (((b, s) :: ps).map pc |>.flatten.append (34 :: r)) n = _
    rw [e, ih, List.map_cons, nl_cons, List.append_assoc]
    refine trip ?_
    unfold lnN; split <;> lia
theorem bLem : ∀ (ps : List (Bool × Nat)) (tok r : List Nat) (n : Int) (c : Nat), isW c = true → (∀ p ∈ ps, p.1 = false → isW p.2 = false ∧ p.2 ≠ 92) → bGo tok ((ps.map pc).flatten ++ c :: r) n = (tok ++ ps.map Prod.snd, r, lnN (n + nl (ps.map Prod.snd)) c)
  | [], tok, r, n, c, hc, _ => by
    show bGo tok (c :: r) n = _
    rw [bGo_w hc]; simp [nl_nil]
  | (b, s) :: ps, tok, r, n, c, hc, h => by
    have ih := bLem ps (tok ++ [s]) r (lnN n s) c hc fun p hp => h p (.tail _ hp)
    have e : bGo tok (((b, s) :: ps).map pc |>.flatten.append (c :: r)) n = bGo (tok ++ [s]) ((ps.map pc).flatten ++ c :: r) (lnN n s) := by
      cases b
      · obtain ⟨h1, h2⟩ := h (false, s) (.head _) rfl
        exact bGo_b h1 h2
      · exact bGo_e
    show bGo tok (((b, s) :: ps).map pc |>.flatten.append (c :: r)) n = _
    rw [e, ih, List.map_cons, nl_cons, List.append_assoc]
    refine trip ?_
    unfold lnN; split <;> split <;> lia
theorem tSkip : ∀ (l r : List Nat) (n : Int), (∀ c ∈ l, isW c = true) → tGo (l ++ r) n = tGo r (n + nl l)
  | [], r, n, _ => by rw [nl_nil, Int.add_zero]; rfl
  | c :: l, r, n, h => by
    rw [List.cons_append, tGo_ws (h c (.head _)), tSkip l r _ fun d hd => h d (.tail _ hd), nl_cons]
    congr 1
    unfold lnN; split <;> lia
theorem wsQ_w (m : Nat) : ∀ c ∈ wsQ m, isW c = true := by
  unfold wsQ
  split <;> intro c hc <;> simp at hc
  · subst hc; rfl
  · subst hc; rfl
  · rcases hc with rfl | rfl <;> rfl
theorem wsB_w (m : Nat) : ∃ c l, wsB m = c :: l ∧ isW c = true ∧ ∀ d ∈ l, isW d = true := by
  unfold wsB
  split
  · exact ⟨32, [], rfl, rfl, by simp⟩
  · exact ⟨10, [], rfl, rfl, by simp⟩
  · exact ⟨9, [10], rfl, rfl, by simp [isW]⟩
  · exact ⟨13, [10, 32], rfl, rfl, by simp [isW]⟩
noncomputable def wordOk (w : List Nat) : Prop := ∀ s ∈ w, s ≠ 9 ∧ s ≠ 13
theorem psG_mem {st : Nat} {w : List Nat} {p : Bool × Nat} (h : p ∈ psG st w) : ∃ k, k < w.length ∧ p.2 ∈ w ∧ p = (escG st k p.2, p.2) := by
  unfold psG at h
  obtain ⟨k, hk, rfl⟩ := List.mem_map.mp h
  rw [List.mem_range] at hk
  refine ⟨k, hk, ?_, rfl⟩
  dsimp only
  rw [List.getD_eq_getElem?_getD, List.getElem?_eq_getElem hk]
  exact List.getElem_mem hk
theorem oneLem {w : List Nat} (c : Nat) (hw : wordOk w) : ∃ trail, (∀ d ∈ trail, isW d = true) ∧ ∀ (r : List Nat) (n : Int), tGo (oneG w c ++ r) n = (w, trail ++ r, n + nl (oneG w c) - nl trail) := by
  unfold oneG
  generalize hst : styleOf w c = st
  have hst4 : st < 4 := by rw [← hst]; unfold styleOf; split; decide; exact Nat.mod_lt _ (by decide)
  rw [← psG_pc]
  by_cases h1 : st % 2 = 1
  · rw [if_pos h1]
    refine ⟨wsQ (c / 16 % 4), wsQ_w _, fun r n => ?_⟩
    have e : [34] ++ ((psG st w).map pc).flatten ++ [34] ++ wsQ (c / 16 % 4) ++ r = 34 :: (((psG st w).map pc).flatten ++ 34 :: (wsQ (c / 16 % 4) ++ r)) := by simp
    rw [e, tGo_q, qLem, psG_snd, List.nil_append]
    · refine trip ?_
      rw [nl_app, nl_app, nl_app, nl_pcs, psG_snd]
      have : nl [34] = 0 := rfl
      lia
    · intro p hp hf
      obtain ⟨k, hk, hm, e⟩ := psG_mem hp
      have e1 : escG st k p.2 = false := by rw [e] at hf; exact hf
      unfold escG at e1
      simp only [Bool.or_eq_false_iff, Bool.and_eq_false_iff, decide_eq_false_iff_not] at e1
      have h0 : ¬ st = 0 := by lia
      rw [if_neg h0] at e1
      have := e1.1.2
      simp at this
      exact this
  · rw [if_neg h1]
    obtain ⟨c0, l, e0, hc0, hl⟩ := wsB_w (c / 16 % 4)
    rw [e0]
    refine ⟨l, hl, fun r n => ?_⟩
    have hne : w ≠ [] := by
      intro e; subst e
      apply h1; rw [← hst]; rfl
    have hb : ∀ p ∈ psG st w, p.1 = false → isW p.2 = false ∧ p.2 ≠ 92 := by
      intro p hp hf
      obtain ⟨k, hk, hm, e⟩ := psG_mem hp
      have e1 : escG st k p.2 = false := by rw [e] at hf; exact hf
      unfold escG at e1
      simp only [Bool.or_eq_false_iff, Bool.and_eq_false_iff, decide_eq_false_iff_not] at e1
      have h0 : st = 0 := by lia
      rw [if_pos h0] at e1
      have h2 := e1.1.2
      simp at h2
      obtain ⟨h3, h4⟩ := hw _ hm
      refine ⟨?_, h2.2.2⟩
      unfold isW
      simp [h2.1, h2.2.1, h3, h4]
    have hfirst : ∀ p ps, psG st w = p :: ps → p.1 = false → p.2 ≠ 34 := by
      intro p ps e hf
      have hk0 : (psG st w)[0]? = some p := by rw [e]; rfl
      unfold psG at hk0
      have hl0 : 0 < w.length := List.length_pos_iff.mpr hne
      rw [List.getElem?_map, List.getElem?_range hl0] at hk0
      simp only [Option.map_some, Option.some.injEq] at hk0
      subst hk0
      dsimp only at hf ⊢
      unfold escG at hf
      simp only [Bool.or_eq_false_iff, Bool.and_eq_false_iff, decide_eq_false_iff_not] at hf
      rcases hf.2 with h | h
      · exact h
      · exact absurd trivial h
    have hsnd := psG_snd st w
    have hnl := nl_pcs (psG st w)
    generalize psG st w = ps at hb hfirst hsnd hnl ⊢
    match ps with
    | [] => exact absurd hsnd.symm hne
    | (b, s) :: ps =>
      have key : tGo ((((b, s) :: ps).map pc).flatten ++ c0 :: l ++ r) n = bGo [s] ((ps.map pc).flatten ++ c0 :: (l ++ r)) (lnN n s) := by
        have e : (((b, s) :: ps).map pc).flatten ++ c0 :: l ++ r = pc (b, s) ++ ((ps.map pc).flatten ++ c0 :: (l ++ r)) := by simp
        rw [e]
        cases b
        · obtain ⟨g1, g2⟩ := hb (false, s) (.head _) rfl
          have g3 := hfirst _ _ rfl rfl
          exact tGo_b g1 g3 g2
        · exact tGo_e
      rw [key, bLem ps [s] (l ++ r) _ c0 hc0 fun p hp => hb p (.tail _ hp)]
      rw [← hsnd, List.map_cons]
      refine trip ?_
      rw [nl_app, hnl, List.map_cons, nl_cons, nl_cons]
      unfold lnN
      split <;> split <;> lia
noncomputable def toks : Nat → List Nat → Int → List (List Nat) × List Nat × Int
  | 0, cs, n => ([], cs, n)
  | k + 1, cs, n => ((tGo cs n).1 :: (toks k (tGo cs n).2.1 (tGo cs n).2.2).1, (toks k (tGo cs n).2.1 (tGo cs n).2.2).2)
theorem toks_text : ∀ (ws : List (List Nat)) (cs : List Nat) (lead : List Nat) (n : Int), ws.length ≤ cs.length → (∀ w ∈ ws, wordOk w) → (∀ c ∈ lead, isW c = true) →
    toks (ws.length + 2) (lead ++ (textG ws cs).flatten) n = (ws ++ [[], []], [], n + nl lead + nl (textG ws cs).flatten)
  | [], cs, lead, n, _, _, hl => by
    have e : (textG [] cs).flatten = [] := by simp [textG]
    have h := tSkip lead [] n hl
    rw [e]
    show toks 2 (lead ++ []) n = _
    have h0 : ∀ m, tGo [] m = ([], [], m) := fun _ => rfl
    simp only [toks, h, h0, nl_nil, Int.add_zero, List.nil_append]
  | w :: ws, [], lead, n, h, _, _ => by simp at h
  | w :: ws, c :: cs, lead, n, h, hw, hl => by
    obtain ⟨trail, t1, t2⟩ := oneLem c (hw w (.head _))
    have ih := toks_text ws cs trail (n + nl lead + nl (oneG w c) - nl trail) (by simpa using h) (fun v hv => hw v (.tail _ hv)) t1
    have e : (textG (w :: ws) (c :: cs)).flatten = oneG w c ++ (textG ws cs).flatten := by simp [textG]
    rw [e, List.length_cons, show ws.length + 1 + 2 = (ws.length + 2) + 1 by lia, toks, tSkip lead _ n hl, t2]
    dsimp only
    rw [ih, nl_app]
    refine trip ?_
    lia
end
noncomputable section
theorem qGo_len : ∀ (k : Nat) (tok cs : List Nat) (n : Int), cs.length ≤ k → (qGo tok cs n).2.1.length ≤ cs.length
  | _, tok, [], n, _ => Nat.le_refl _
  | 0, tok, c :: cs, n, h => by simp at h
  | k + 1, tok, c :: cs, n, h => by
    by_cases h1 : c = 34
    · subst h1; rw [qGo_q]; simp
    · by_cases h2 : c = 92
      · subst h2
        cases cs with
        | nil => rw [qGo_e0]; simp
        | cons d ds =>
          rw [qGo_e]
          have := qGo_len k (tok ++ [d]) ds (lnN n d) (by simp at h; lia)
          simp; lia
      · rw [qGo_b h1 h2]
        have := qGo_len k (tok ++ [c]) cs (lnN n c) (by simpa using h)
        simp; lia
theorem bGo_len : ∀ (k : Nat) (tok cs : List Nat) (n : Int), cs.length ≤ k → (bGo tok cs n).2.1.length ≤ cs.length
  | _, tok, [], n, _ => Nat.le_refl _
  | 0, tok, c :: cs, n, h => by simp at h
  | k + 1, tok, c :: cs, n, h => by
    by_cases h1 : isW c = true
    · rw [bGo_w h1]; simp
    · have h1' : isW c = false := by simpa using h1
      by_cases h2 : c = 92
      · subst h2
        cases cs with
        | nil => rw [bGo_e0]; simp
        | cons d ds =>
          rw [bGo_e]
          have := bGo_len k (tok ++ [d]) ds (lnN n d) (by simp at h; lia)
          simp; lia
      · rw [bGo_b h1' h2]
        have := bGo_len k (tok ++ [c]) cs (lnN n c) (by simpa using h)
        simp; lia
theorem tGo_len : ∀ (cs : List Nat) (n : Int), (tGo cs n).2.1.length ≤ cs.length
  | [], n => Nat.le_refl _
  | c :: cs, n => by
    by_cases h1 : isW c = true
    · rw [tGo_ws h1]
      have := tGo_len cs (lnN n c)
      simp; lia
    · have h1' : isW c = false := by simpa using h1
      by_cases h3 : c = 34
      · subst h3
        rw [tGo_q]
        have := qGo_len cs.length [] cs n (Nat.le_refl _)
        simp; lia
      · by_cases h2 : c = 92
        · subst h2
          cases cs with
          | nil => rw [tGo_e0]; simp
          | cons d ds =>
            rw [tGo_e]
            have := bGo_len ds.length [d] ds (lnN n d) (Nat.le_refl _)
            simp; lia
        · rw [tGo_b h1' h3 h2]
          have := bGo_len cs.length [c] cs (lnN n c) (Nat.le_refl _)
          simp; lia
end
noncomputable section
section
variable {C : Cfg} {gl : List (Str × V)} {A : Around} {H H' : AH} {Q : V → AH → Prop}
theorem code_fnC {fa : Addr} {F : FnA} {cd : Value} {pn ln : List Str} {xs : List V} {vals : List (Option V)} {body : List Stmt} {n : Nat}
    (G : C.Ok gl) (hF : ∀ s, Rel C H s → FnAt s.heap fa F cd) (hroom : Room A (n + 1)) (hb : F.body = .stmts body) (hclo : F.closure = []) (hbind : Binds F pn) (hpl : pn.length = xs.length) (ndp : pn.Nodup)
    (hln : ∀ x ∈ ln, F.scope.names.lookup x = some .local) (nd : ln.Nodup)
    (hkind : ∀ x ∈ pn, F.scope.names.lookup x = some .local ∨ F.scope.names.lookup x = some .cell)
    (hcs : ∀ L x, x ∈ pn → F.scope.names.lookup x = some .cell → ((cellsFrom (L + 1) F.scope.names []).lookup x).isSome = true)
    (hnl : ∀ L, ∀ p ∈ cellsFrom (L + 1) F.scope.names [], F.scope.names.lookup p.1 = some .cell ∧ (cellsFrom (L + 1) F.scope.names []).lookup p.1 = some p.2)
    (hv : ln.length = vals.length) (hvals : ∀ (k : Nat) x u, ln[k]? = some x → vals[k]? = some (some u) → At pn (xs.map some) x u)
    (h : ∀ L, ∃ Hc, CInit pn (xs.map some) (cellsFrom (L + 1) F.scope.names []) Hc ∧
      WPS C (A.deeper (envF F L fa cd (cellsFrom (L + 1) F.scope.names []))) (envF F L fa cd (cellsFrom (L + 1) F.scope.names [])) body (fun fl H₁ => ∃ H₂, Sub H₂ H₁ ∧ Q fl.val H₂) (Hc ++ (L, .ns ln vals) :: H))
    (hco : F.scope.isCoroutine = false := by with_unfolding_all rfl) (hgen : F.scope.isGenerator = false := by with_unfolding_all rfl) (hk : F.scope.kind = .function := by with_unfolding_all rfl) :
    CodeC C A fa xs Q H := fun avs s ra R => by
  obtain ⟨o, fd, ho, hd, e1, e2, e3, e4, e5, e6, e7, e8, e9, e10, hrec⟩ := (hF s R).ex
  have hlen := ra.length
  have hA : A.depth < recursionLimit := by have := hroom.depth; unfold recursionLimit; lia
  refine (codeAny_call_function (body := body) hA ho hd (by rw [e4]; exact hco) (by rw [e4]; exact hgen) (by rw [e3]; exact hb) (by rw [e10, e1]; exact hrec) ?_)
  have hpn : avs.length = pn.length := by rw [hpl, hlen]
  rw [hbind fd avs e2 e8 e9 hpn, e4, e5, e6, e7, e1, e10, hclo]
  refine wpAny_pure (wpAny_newFunctionEnv_cells hk (fun x hx => ?_) fun env he s' X => ?_)
  · have hx' := (List.of_mem_zip hx).1
    rcases hkind _ hx' with q | q
    · exact .inl q
    · exact .inr ⟨q, hcs _ _ hx' q⟩
  · have he' : env = envF F s.heap.objs.size fa cd (cellsFrom (s.heap.objs.size + 1) F.scope.names []) := he
    subst he'
    have ext := X.toInCall.keep
    obtain ⟨h', tk, rfl⟩ := X.toInCall.same
    refine ⟨(G.nolimit.keeps R.keep).keeps ext, ?_⟩
    obtain ⟨Hc, ci, hw⟩ := h s.heap.objs.size
    have ndz : ((pn.zip avs).map (·.1)).Nodup := by
      exact ndp.sublist (zip_fst_sub _ _)
    have getz : ∀ x u, At pn (xs.map some) x u → ∃ v, (pn.zip avs).reverse.lookup x = some v ∧ VRel C.X h' u v := fun x u a => by
      obtain ⟨k, h1, h2⟩ := a.index
      rw [List.getElem?_map] at h2
      obtain ⟨u', hu, e⟩ := Option.map_eq_some_iff.mp h2
      cases e
      obtain ⟨v, hv, rv⟩ := ra.get hu
      refine ⟨v, lookup_rev ndz (List.mem_iff_getElem?.mpr ⟨k, ?_⟩), rv.fz (fz_of_ext ext)⟩
      rw [List.getElem?_zip_eq_some]; exact ⟨h1, hv⟩
    have rN := Rel.addAll (t := tk) R ext (N := Hc ++ [(s.heap.objs.size, .ns ln vals)]) ?_ ?_ ?_
    · obtain ⟨R', k'⟩ := rN
      rw [List.append_assoc] at R' k'
      refine codeAny_func (wpAny_mono (hw _ R') (fun f s₁ ⟨fl, H₁, ⟨H₂, sub, q⟩, rf, R₁, k₁⟩ => ?_) fun _ _ e => e.elim)
      refine ⟨fl.val, H₂, q, ?_, R₁.sub sub, (k'.trans k₁).sub sub⟩
      cases fl with
      | ret v => obtain ⟨w, rfl, rw⟩ := rf; exact rw
      | next => cases rf; simp [Fl.val, VRel]
      | brk => cases rf; simp [Fl.val, VRel]
      | cont => cases rf; simp [Fl.val, VRel]
    · simp only [keys, List.map_append, List.map_cons, List.map_nil]
      have hke := ci.keys
      simp only [keys] at hke
      rw [hke]
      refine List.nodup_append.mpr ⟨List.pairwise_map.mpr X.apart, by simp, fun a ha b hb e => ?_⟩
      subst e
      obtain ⟨p, hp, rfl⟩ := List.mem_map.mp ha
      have hgt := X.above p.1 p.2 hp
      rw [List.mem_singleton.mp hb] at hgt
      exact Nat.lt_irrefl _ hgt
    · intro p hp
      rcases List.mem_append.mp hp with hp | hp
      · obtain ⟨n, o, _, hm, _⟩ := ci.mem p hp
        exact Nat.le_of_lt (X.above _ _ hm)
      · rw [List.mem_singleton.mp hp]; exact Nat.le_refl _
    · intro p hp
      rcases List.mem_append.mp hp with hp | hp
      · obtain ⟨n, o, e, hm, ha⟩ := ci.mem p hp
        obtain ⟨hk1, hk2⟩ := hnl _ _ hm
        rw [e]
        have hcell := X.cell n p.1 hk2
        refine ⟨_, hcell, fun u hu => ?_⟩
        obtain ⟨v, hv, rv⟩ := getz n u (ha u hu)
        refine ⟨v, ?_, rv⟩
        rw [bindC_eq _ _ _ _ (by show F.scope.names.lookup n ≠ _; rw [hk1]; decide), hv]; rfl
      · rw [List.mem_singleton.mp hp]
        refine ⟨nd, _, X.toInCall.ns, NsRel.of_get hv.symm fun k x u h1 h2 => ?_⟩
        obtain ⟨v, hv', rv⟩ := getz x u (hvals k x u h1 h2)
        refine ⟨v, ?_, rv⟩
        rw [bindL_eq _ _ _ _ (hln x (List.mem_of_getElem? h1)), hv']; rfl
theorem code_okC {fa : Addr} {F : FnA} {cd : Value} {pn ln gn cn : List Str} {xs : List V} {vals : List (Option V)} {body : List Stmt} {n : Nat} (O : FnOk F pn ln gn cn [])
    (G : C.Ok gl) (hF : ∀ s, Rel C H s → FnAt s.heap fa F cd) (hroom : Room A (n + 1)) (hb : F.body = .stmts body) (hclo : F.closure = []) (hpl : pn.length = xs.length)
    (hv : ln.length = vals.length) (hvals : ∀ (k : Nat) x u, ln[k]? = some x → vals[k]? = some (some u) → At pn (xs.map some) x u)
    (h : ∀ L cs A' env, cs.map (·.1) = cn → Room A' n → FEnv env L ln cs gn → env = envF F L fa cd cs → ∃ Hc, CInit pn (xs.map some) cs Hc ∧ WPS C A' env body (fun fl H₁ => ∃ H₂, Sub H₂ H₁ ∧ Q fl.val H₂) (Hc ++ (L, .ns ln vals) :: H)) :
    CodeC C A fa xs Q H :=
  code_fnC G hF hroom hb hclo O.binds hpl O.ndp (fun x hx => (O.hl x hx).1) O.nd (fun x hx => by
      rcases O.pk x hx with h | h
      · exact .inl (O.hl x h).1
      · exact .inr (O.hc x h).1)
    (fun L x hx hk => by
      have hm : x ∈ cn := by
        rcases O.pk x hx with h | h
        · rw [(O.hl x h).1] at hk; cases hk
        · exact h
      rw [← O.cells L] at hm
      obtain ⟨p, hp, rfl⟩ := List.mem_map.mp hm
      rw [(O.cellsLook L hp).2]; rfl)
    (fun L p hp => ⟨(O.hc p.1 (O.cellsLook L hp).1).1, (O.cellsLook L hp).2⟩) hv hvals
    (fun L => by
      obtain ⟨Hc, ci, hw⟩ := h L _ _ _ (O.cells L) (hroom.deeper _) (O.envC L fa cd) rfl
      exact ⟨Hc, ci, hw⟩) O.co O.gen O.kind


/-- a list of ints of the base heap, sliced -/
theorem gs_base {l : Addr} {its : Array Value} {ns : List Int} {lo hi st : Option Int} (hl : C.B.IsList l its) (hi' : IntsAre its.toList ns) (h0 : st ≠ some 0) (hz : ns.length ≤ 100000) (q : ∀ a, Q (.ref a) ((a, .list (pySlice (intVs ns) lo hi st)) :: H)) : GS C A (.ref l) lo hi st Q H := fun o sl vl vu vst s ro hs p1 p2 p3 R => by
  simp only [VRel] at ro; subst ro
  have pl : s.heap.IsList l its := let ⟨o, e, r⟩ := hl; ⟨o, R.keep _ _ e, r⟩
  have rvs : VsRel C.X s.heap (intVs ns) its.toList := by
    have : ∀ (vs : List Value) (ns : List Int), IntsAre vs ns → VsRel C.X s.heap (intVs ns) vs := by
      intro vs ns h
      induction h with
      | nil => exact VsRel.nil
      | cons _ _ _ ih => exact VsRel.cons ⟨_, rfl⟩ ih
    exact this _ _ hi'
  have hlen := rvs.length
  refine ⟨_, _, slot_list_getitem.lookup, pl.typeIs, wpAny_getItem_list_slice pl hs p1 p2 p3 h0 ?_ (by rw [← Array.length_toList, hlen, List.length_map, sizeLine_eq]; lia)⟩
  have ext : ∀ b o, s.heap.get? b = some o → (s.heap.push { cls := .type "list", data := .seq (slicePick its lo hi st) }).get? b = some o := fun b o e => Heap.get?_push_of_some _ e
  refine ⟨_, _, q _, rfl, R.add (t := s.toks) ext (Nat.le_refl _) ⟨_, ⟨0, Heap.get?_push_size _ rfl⟩, ?_⟩, kept_add (t := s.toks) ext (Nat.le_refl _)⟩
  have := (filterMap_rel (rvs.fz (fz_of_ext ext)) (sliceRange (sliceBounds lo hi st (intVs ns).length).1 (sliceBounds lo hi st (intVs ns).length).2.1 (sliceBounds lo hi st (intVs ns).length).2.2))
  have e : (slicePick its lo hi st).toList = (sliceRange (sliceBounds lo hi st (intVs ns).length).1 (sliceBounds lo hi st (intVs ns).length).2.1 (sliceBounds lo hi st (intVs ns).length).2.2).filterMap (its.toList[·]?) := by
    unfold slicePick
    rw [← hlen]; simp
  rw [e]
  exact this
end
-- counting a sign
open Builtin Builtin.Str StrLaws in
theorem occ_count (x : Str) (c : Nat) (limit : Nat) (hlim : x.length < limit) : ∀ (k i : Nat) (found : Array Nat), i + k = x.length + 1 → ∀ free, free ≤ i → found.size ≤ i →
    (forIn (List.range' i k) (found, free) (occBody x ⟨#[c]⟩ x.length limit)).run.fst.size = found.size + (x.cps.toList.drop i).count c
  | 0, i, found, hk, free, hf, hs => by
    have : x.cps.toList.drop i = [] := List.drop_of_length_le (by show x.cps.toList.length ≤ i; rw [Array.length_toList]; show x.length ≤ i; lia)
    rw [this]; rfl
  | k + 1, i, found, hk, free, hf, hs => by
    rw [List.range'_succ, List.forIn_cons]
    have hone := subAt_one x c i
    by_cases h : x.cps.toList[i]? = some c
    · have h2 := hone.mpr h
      have hi : i < x.cps.toList.length := (List.getElem?_eq_some_iff.mp h).1
      have hb : occBody x ⟨#[c]⟩ x.length limit i (found, free) = pure (ForInStep.yield (found.push i, i + 1)) := by
        unfold occBody
        have hil : i < x.length := by rw [Array.length_toList] at hi; exact hi
        rw [if_pos ⟨⟨⟨by show found.size < limit; lia, hf⟩, h2.1⟩, h2.2⟩]
        rfl
      rw [hb]
      show (forIn (List.range' (i + 1) k) (found.push i, i + 1) (occBody x ⟨#[c]⟩ x.length limit)).run.fst.size = _
      rw [occ_count x c limit hlim k (i + 1) (found.push i) (by lia) (i + 1) (Nat.le_refl _) (by simp; lia), List.drop_eq_getElem_cons hi, Array.size_push]
      have e : x.cps.toList[i] = c := by rw [List.getElem?_eq_getElem hi] at h; exact Option.some.inj h
      rw [e, List.count_cons_self]; lia
    · have hb : occBody x ⟨#[c]⟩ x.length limit i (found, free) = pure (ForInStep.yield (found, free)) := by
        unfold occBody
        rw [if_neg (fun hc => h (hone.mp ⟨hc.1.2, hc.2⟩))]
      rw [hb]
      show (forIn (List.range' (i + 1) k) (found, free) (occBody x ⟨#[c]⟩ x.length limit)).run.fst.size = _
      rw [occ_count x c limit hlim k (i + 1) found (by lia) free (by lia) (by lia)]
      by_cases hi : i < x.cps.toList.length
      · rw [List.drop_eq_getElem_cons hi, List.count_cons_of_ne]
        rw [List.getElem?_eq_getElem hi] at h
        exact fun e => h (by rw [e])
      · rw [List.drop_of_length_le (by lia), List.drop_of_length_le (by lia)]
theorem count_sign (l : List Nat) (c : Nat) : (Builtin.Str.occurrences (mkS l) ⟨#[c]⟩ 0 (mkS l).length ((mkS l).length + 1)).length = l.count c := by
  rw [StrLaws.occ_eq, Array.length_toList, Nat.sub_zero, occ_count (mkS l) c _ (Nat.lt_succ_self _) _ 0 #[] (by lia) 0 (Nat.le_refl _) (Nat.zero_le _)]
  simp
theorem and15 (x : Nat) : Builtin.bitAnd (x : Int) 15 = ((x % 16 : Nat) : Int) := by
  unfold Builtin.bitAnd
  have h1 : decide (0 ≤ (x : Int)) = true := by simp
  rw [h1, show decide ((0 : Int) ≤ 15) = true from rfl]
  show (((x : Int).toNat &&& (15 : Int).toNat : Nat) : Int) = _
  rw [Int.toNat_natCast, show (15 : Int).toNat = 2 ^ 4 - 1 from rfl, Nat.and_two_pow_sub_one_eq_mod]
end
noncomputable section
noncomputable def LB : List Stmt := cbody (nth PW.main.body 21)
noncomputable abbrev lawL : List Str := ["script", "one", "cells", "table", "scale", "low", "turned", "figures", "code", "text", "left", "heard", "line", "state", "said", "due", "told", "used", "back", "rest", "start", "there"]
noncomputable abbrev lawG : List Str := ["range", "len", "_law_text", "_law_word", "list", "_law_reader", "_law_line", "_law_out", "_law_counted", "_law_in", "_int2digits", "_law_taken"]
noncomputable abbrev lawC : List Str := ["reader", "drawn", "number"]
noncomputable def F_law : FnA := dfn "law" [] (nth PW.main.body 21)
theorem ok_law : FnOk F_law ["script"] lawL lawG lawC [] :=
  ⟨binds_of rfl rfl (by decide +kernel), fun x hx => (by decide +kernel : ∀ x ∈ (lawL : List Str), (F_law).scope.names.lookup x = some .local ∧ dbg x) x hx, fun x hx => (by decide +kernel : ∀ x ∈ (lawG : List Str), (F_law).scope.names.lookup x = some .globalImplicit ∧ dbg x) x hx, fun x hx => (by decide +kernel : ∀ x ∈ (lawC : List Str), (F_law).scope.names.lookup x = some .cell ∧ dbg x) x hx, fun x hx => (by decide +kernel : ∀ x ∈ ([] : List Str), (F_law).scope.names.lookup x = some .free ∧ dbg x) x hx, by decide +kernel, by decide +kernel, by decide +kernel, by decide +kernel, fun x hx => (by decide +kernel : ∀ x ∈ (F_law).scope.names, x.2 = .cell → x.1 ∈ lawC) x hx, by decide +kernel, fun L => rfl, rfl, rfl, rfl⟩
section
variable {C : Cfg} {a : Ad} {A : Around} {H H' : AH} {Q : V → AH → Prop}
/-- a line in which a text's signs wait -/
inductive LsO (l : List Nat) (x : Addr) (a : Ad) (dx : Addr) (fp : Addr) (pb : Addr) (fd : Addr) (rd : Addr) (cl : Addr) (el : Addr) (L : Addr) (H : AH) (i : Nat) (H₁ : AH) : Prop
  | mk (h1 : i ≤ l.length) (w : Option V) (h2 : H₁ = (x, .obj (instObj a.cls dx)) :: (dx, .attrs (netA 1 (.ref fp) pb)) :: (pb, .list (strVs ((l.take i).map fun c => [c]))) :: (fd, .attrs [("read", .ref rd)]) :: (fp, .fobj fd) :: (rd, .fn (F_lam [("left", cl)])) :: (cl, .cell (some (.ref el))) :: (el, .list []) :: (L, AO.ns ["words", "line", "word"] [some (.str (mkS l)), some (.ref x), w]) :: H) : LsO l x a dx fp pb fd rd cl el L H i H₁
theorem sp_lineS {l : List Nat} (W : W3 C a) (hr : Room A 6) (hT : (a.pReader, AO.tab "_law_reader.<locals>.<lambda>") ∈ H) (hz : l.length ≤ 90000)
    (q : ∀ x dx pb fp, Q (.ref x) ((x, .obj (instObj a.cls dx)) :: (dx, .attrs (netA 1 fp pb)) :: (pb, .list (strVs (l.map fun c => [c]))) :: H)) :
    WPC C A (.ref a.line) [.str (mkS l)] Q H := by
  have G := W.G
  obtain ⟨cd, hF⟩ := W.line
  refine call_ok ok_line G (fnAt_of_base hF) hr rfl rfl (by walk_at "init") rfl rfl fun L cd A' env hr' hD FE he => ?_
  have hA := hr'.hd
  repeat walk_at "s"
  intro el
  repeat walk_at "s"
  refine sp_reader W hr' (by walk_at "mem") ?_
  intro x dx pb fd fp rd cl
  repeat walk_at "s"
  refine wp1_For (wpi_value ?_)
  repeat walk_at "s"
  refine pi_str hA ?_
  refine ⟨LsO l x a dx fp pb fd rd cl el L H, l.length, ?_, ?_⟩
  · exact ⟨Nat.zero_le _, none, rfl⟩
  · rintro i H₁ ⟨hi, w, rfl⟩
    by_cases hlt : i < l.length
    · left
      refine ⟨.str (sg l[i]), hlt, by simp [signItem, fnItem, Str.length, hlt], ?_⟩
      repeat walk_at "s"
      refine gm_push W (by walk_at "mem") (by walk_at "mem") ?_
      repeat walk_at "s"
      refine sp_push W (hr'.mono (by decide)) (by walk_at "mem") (by walk_at "mem") (by walk_at "upd") (by simp; lia) ?_
      repeat walk_at "s"
      refine ⟨hlt, some (.str (sg l[i])), ?_⟩
      rw [List.take_succ_eq_append_getElem hlt]
      simp only [strVs, List.map_append, List.map_cons, List.map_nil]
    · right
      have hi' : i = l.length := by lia
      subst hi'
      refine ⟨by simp [signItem, fnItem, Str.length], ?_⟩
      repeat walk_at "s"
      rw [List.take_length]
      exact ⟨(x, .obj (instObj a.cls dx)) :: (dx, .attrs (netA 1 (.ref fp) pb)) :: (pb, .list (strVs (l.map fun c => [c]))) :: H, .pick .head (.pick .head (.pick .head (by walk_at "sub"))), q _ _ _ _⟩
end
end
noncomputable section
section
variable {C : Cfg} {a : Ad} {A : Around} {H R : AH} {env : Env} {L cR cD cN : Addr}
noncomputable def QL (a : Ad) : Fl → AH → Prop := fun fl H₁ => ∃ H₂, Sub H₂ H₁ ∧ fl.val = .bool true ∧ Tabs a H₂
theorem QL.mk {a : Ad} {H₁ : AH} (T : Tabs a H₁) : QL a (.ret (.bool true)) H₁ := ⟨H₁, .refl _, rfl, T⟩
theorem sh4 {st : Int} {tb : List (List Nat)} (htc : ∀ w ∈ tb, ∀ c ∈ w, c < 0x110000) : SeqAt.shaped (.list [.int st, dSs tb, .list [], .list []]) = true := by
  refine (dok_list (n := 2) fun d hd => ?_).shaped (by decide)
  simp only [List.mem_cons, List.not_mem_nil, or_false] at hd
  rcases hd with rfl | rfl | rfl | rfl
  · exact dok_int
  · exact dok_strs htc
  · exact dok_list (n := 1) (by simp)
  · exact dok_list (n := 1) (by simp)
theorem part20 {n sc : Nat} {tb : List (List Nat)} {tl : Addr} {v0 v1 v2 v6 v7 v8 v9 v10 v11 v12 v13 v14 v15 v16 v17 v18 v19 v20 v21 : Option V} (W : W3 C a) (hr : Room A 26) (FE : FEnv env L lawL [("reader", cR), ("drawn", cD), ("number", cN)] lawG)
    (hN : (cN, AO.cell (some (.int n))) ∈ R) (htl : (tl, AO.list (strVs tb)) ∈ R) (hT : Tabs a R) (hn : n < 10 ^ 48) (hsc : 1 ≤ sc) (hsc2 : sc ≤ 2) (htb : 2 ≤ tb.length) (htz : tb.length ≤ 6) (htc : ∀ w ∈ tb, ∀ c ∈ w, c < 0x110000) (htw : ∀ w ∈ tb, w.length ≤ 100) :
    WPS C A env (LB.drop 20) (QL a) ((L, .ns lawL [v0, v1, v2, some (.ref tl), some (.int sc), some (.int (sc * tb.length : Nat)), v6, v7, v8, v9, v10, v11, v12, v13, v14, v15, v16, v17, v18, v19, v20, v21]) :: R) := by
  have G := W.G
  have hA := hr.hd
  obtain ⟨t1, t2, t3⟩ := hT
  have hne : tb ≠ [] := by intro e; subst e; simp at htb
  have hlow1 : 1 ≤ sc * tb.length := Nat.mul_pos hsc (by lia)
  have hlow2 : sc * tb.length ≤ 12 := Nat.mul_le_mul hsc2 htz
  generalize hlw : sc * tb.length = low at hlow1 hlow2 ⊢
  refine wps_cons ?_
  repeat walk_at "s"
  refine op_pow_int (by decide) (by decide) ?_
  refine op_floordiv_int (by decide) (noPy (by decide +kernel)) ?_
  repeat walk_at "s"
  refine op_mul_int (mulOk (k := 10) (l := 10) (by decide) (by rw [Int.natAbs_natCast]; lia) (by decide)) ?_
  have e15 : (15 : Int) * (low : Int) = ((15 * low : Nat) : Int) := by push_cast; rfl
  rw [e15]
  refine op_mod_int (by lia) ?_
  rw [show ((n : Nat) : Int).fdiv ((10 : Int) ^ (36 : Int).toNat) = ((n / 10 ^ 36 : Nat) : Int) from fdiv_nat n (10 ^ 36), fmod_nat]
  repeat walk_at "s"
  have hst1 : n / 10 ^ 36 % (15 * low) < 15 * low := Nat.mod_lt _ (by lia)
  generalize n / 10 ^ 36 % (15 * low) = mm at hst1 ⊢
  have est : (low : Int) + ((mm : Nat) : Int) = ((low + mm : Nat) : Int) := by push_cast; rfl
  rw [est]
  generalize hst : low + mm = st
  have hs1 : low ≤ st := by lia
  have hs2 : st < 16 * low := by lia
  subst hlw
  obtain ⟨T, hT1, hT2, s₂, ds₂, ho, htk⟩ := ans_msg hne hsc (by lia) htz hs1 hs2
  repeat walk_at "s"
  refine wp1_Assign ?_
  repeat walk_at "s"
  refine sp_line W (hr.mono (by decide)) (by walk_at "mem") (by walk_at "mem") (by simp; lia) ?_
  intro x1 dx1 pb1 fp1
  repeat walk_at "s"
  have hT' : ∀ u, Tabs a ((x1, .obj (instObj a.cls dx1)) :: (dx1, .attrs (netA 1 fp1 pb1)) :: (pb1, u) :: (L, AO.ns lawL [v0, v1, v2, some (.ref tl), some (.int sc), some (.int (sc * tb.length : Nat)), v6, v7, v8, v9, v10, v11, v12, v13, v14, v15, v16, v17, v18, v19, some (.int st), v21]) :: R) := fun u => ⟨by walk_at "mem", by walk_at "mem", by walk_at "mem"⟩
  generalize hig : inG sc tb tb.reverse st = ig at hT1
  obtain ⟨s1, ls1⟩ := ig
  refine sp_in (K := fun u => (x1, .obj (instObj a.cls dx1)) :: (dx1, .attrs (netA 1 fp1 pb1)) :: (pb1, u) :: (L, AO.ns lawL [v0, v1, v2, some (.ref tl), some (.int sc), some (.int (sc * tb.length : Nat)), v6, v7, v8, v9, v10, v11, v12, v13, v14, v15, v16, v17, v18, v19, some (.int st), v21]) :: R) W (hr.mono (by decide)) (.tail (.tail .head)) (fun u => by walk_at "mem") (fun u => by walk_at "mem") (fun u => by walk_at "mem") hT' (fun w hw => hw) (by lia) (by lia) (by lia) (by lia) hig ?_
  dsimp only at hT1
  rw [hT1]
  refine asg_Tuple hA (wpas_cons ?_)
  repeat walk_at "s"
  refine wpas_cons ?_
  repeat walk_at "s"
  refine wpas_nil ?_
  repeat walk_at "s"
  have hT1000 : (T : Int).natAbs < 16 ^ 1000 := by
    rw [Int.natAbs_natCast]
    exact Nat.lt_trans hT2 (Nat.pow_lt_pow_right (by decide) (by decide))
  refine sp_word W (hr.mono (by decide)) hT1000 ?_
  have hlen : (hxd T).length ≤ 14 := hxd_len 14 T hT2
  have ewl : wordL (T : Int).natAbs = (hxd T).reverse.map fun d => 65 + d := by rw [Int.natAbs_natCast, wordL_hxd]
  rw [ewl]
  repeat walk_at "s"
  refine sp_lineS W (hr.mono (by decide)) (by walk_at "mem") (by simp; lia) ?_
  intro x2 dx2 pb2 fp2
  have elt : strVs (((hxd T).reverse.map fun d => 65 + d).map fun c => [c]) = ltV (hxd T).reverse := by simp only [List.map_map]; rfl
  rw [elt]
  repeat walk_at "s"
  refine wp1_Assign ?_
  repeat walk_at "s"
  refine c_len_list (by walk_at "mem") (by simp; lia) ?_
  rw [List.length_map]
  repeat walk_at "s"
  generalize hRR : (x1, AO.obj (instObj a.cls dx1)) :: (dx1, .attrs (netA 1 fp1 pb1)) :: (pb1, AO.list []) :: (L, AO.ns lawL [v0, v1, v2, some (.ref tl), some (.int sc), some (.int (sc * tb.length : Nat)), v6, v7, v8, v9, v10, v11, some (.ref x2), v13, v14, v15, v16, v17, v18, some (.ref pb1), some (.int st), some (.int T)]) :: R = RR
  have r1 : (tl, AO.list (strVs tb)) ∈ RR := by rw [← hRR]; walk_at "mem"
  have r2 : Tabs a RR := by rw [← hRR]; exact ⟨by walk_at "mem", by walk_at "mem", by walk_at "mem"⟩
  have r2' := r2
  obtain ⟨r3, r4, r5⟩ := r2'
  refine sp_out (K := fun u => (x2, .obj (instObj a.cls dx2)) :: (dx2, .attrs (netA 1 fp2 pb2)) :: (pb2, u) :: RR) W (hr.mono (by decide)) (.tail (.tail .head)) (fun u => by walk_at "mem") (fun u => by walk_at "mem") (fun u => by walk_at "mem") (fun u => ((r2.cons _).cons _).cons _) (by simp; lia) (fun e he => hxd_lt T e (List.mem_reverse.mp he)) (Nat.lt_of_le_of_lt hlow2 (Nat.lt_of_lt_of_le (by decide : 12 < 2 ^ 4) (Nat.pow_le_pow_right (by decide) (by decide)))) hne (by lia) (by lia) ho ?_
  intro x3 dx3 pb3 fp3
  subst hRR
  refine asg_Tuple hA (wpas_cons ?_)
  repeat walk_at "s"
  refine wpas_cons ?_
  repeat walk_at "s"
  refine wpas_nil ?_
  repeat walk_at "s"
  obtain ⟨e, f, hef, _, _⟩ := ans_fwd hne _ 0 _ _ _ _ (by lia) (fun d hd => hxd_lt T d (List.mem_reverse.mp hd)) (by simp; lia) ho
  have hds16 : ∀ d ∈ ds₂, d < 16 := fun d hd => hxd_lt T d (List.mem_reverse.mp (by rw [hef]; exact List.mem_append_right _ (List.mem_append_right _ hd)))
  have hdsl : ds₂.length ≤ 90 := by
    have := congrArg List.length hef
    simp at this; lia
  refine sp_taken (K := fun u => (x3, .obj (instObj a.cls dx3)) :: (dx3, .attrs (netA 1 fp3 pb3)) :: (pb3, .list (strVs tb)) :: (x2, .obj (instObj a.cls dx2)) :: (dx2, .attrs (netA 1 fp2 pb2)) :: (pb2, u) :: (x1, .obj (instObj a.cls dx1)) :: (dx1, .attrs (netA 1 fp1 pb1)) :: (pb1, .list []) :: (L, _) :: R) W (hr.mono (by decide)) (.tail (.tail (.tail (.tail (.tail .head))))) (fun u => by walk_at "mem") (fun u => by walk_at "mem") hdsl hds16 (Nat.lt_of_le_of_lt hlow2 (Nat.lt_of_lt_of_le (by decide : 12 < 2 ^ 4) (Nat.pow_le_pow_right (by decide) (by decide)))) htk ?_
  repeat walk_at "s"
  refine ga_pb W (by walk_at "mem") (by walk_at "mem") ?_
  repeat walk_at "s"
  refine ga_pb W (by walk_at "mem") (by walk_at "mem") ?_
  repeat walk_at "s"
  intro k1
  repeat walk_at "s"
  intro k2
  repeat walk_at "s"
  intro k3
  repeat walk_at "s"
  intro k4
  refine op_eq_data (d := .list [.int st, dSs tb, .list [], .list []]) (e := .list [.int st, dSs tb, .list [], .list []]) (dr_list (by walk_at "mem") (ds_cons dr_int (ds_cons (dr_strs (by walk_at "mem")) (ds_cons (dr_list (vs := ltV []) (by walk_at "mem") ds_nil) (ds_cons (dr_list (by walk_at "mem") ds_nil) ds_nil)))))
    (dr_list (by walk_at "mem") (ds_cons dr_int (ds_cons (dr_strs (by walk_at "mem")) (ds_cons (dr_list (by walk_at "mem") ds_nil) (ds_cons (dr_list (by walk_at "mem") ds_nil) ds_nil))))) ?_ ?_ hr.line ?_
  · exact sh4 htc
  · exact sh4 htc
  rw [eqv_cons, eqv_cons, eqv_cons, eqv_cons, eqv_int, eqv_strs, eqv_nil]
  simp only [decide_true, Bool.and_self]
  exact QL.mk ⟨by walk_at "mem", by walk_at "mem", by walk_at "mem"⟩
end
end
noncomputable section
theorem str_slice (l : List Nat) (lo hi st : Option Int) : (Builtin.Str.strSliceIndices lo hi (st.getD 1) (mkS l).length).filterMap ((mkS l).cps[·]?) = pySlice l lo hi st := by
  unfold pySlice Builtin.Str.strSliceIndices
  rw [mkS_len]
  simp only [List.getElem?_toArray]
  rfl
theorem pySlice_upto {α : Type} (l : List α) (p : Nat) : pySlice l none (some p) none = l.take p := by
  unfold pySlice
  have e : sliceBounds none (some (p : Int)) none l.length = (((0 : Nat) : Int), ((min p l.length : Nat) : Int), (1 : Int)) := by
    simp only [sliceBounds, Option.getD_none, show (1 : Int) > 0 by decide, if_true]
    rw [if_neg (by lia)]
    refine Prod.ext rfl (Prod.ext ?_ rfl)
    show max 0 (min (p : Int) l.length) = ((min p l.length : Nat) : Int)
    lia
  rw [e]
  dsimp only
  rw [sliceRange_one, pick_run l 0 _ (by lia)]
  simp
section
variable {C : Cfg} {gl : List (Str × V)} {A : Around} {H H' : AH} {Q : V → AH → Prop}
theorem idx_take (p n : Nat) (h : p ≤ n) : Builtin.Str.strSliceIndices none (some (p : Int)) 1 n = (List.range (p - 0)).map (0 + ·) := by
  have e : Builtin.Str.strSliceIndices none (some (p : Int)) 1 n = sliceRange ((0 : Nat) : Int) ((p : Nat) : Int) 1 := by
    unfold Builtin.Str.strSliceIndices
    simp only [show (1 : Int) > 0 by decide, if_true]
    rw [if_neg (by lia)]
    congr 1
    show max 0 (min (p : Int) n) = p
    lia
  rw [e, sliceRange_one]
theorem idx_drop (p n : Nat) (h : p ≤ n) : Builtin.Str.strSliceIndices (some (p : Int)) none 1 n = (List.range (n - p)).map (p + ·) := by
  have e : Builtin.Str.strSliceIndices (some (p : Int)) none 1 n = sliceRange ((p : Nat) : Int) ((n : Nat) : Int) 1 := by
    unfold Builtin.Str.strSliceIndices
    simp only [show (1 : Int) > 0 by decide, if_true]
    rw [if_neg (by lia)]
    congr 1
    show max 0 (min (p : Int) n) = p
    lia
  rw [e, sliceRange_one]
theorem gs_str_take {l : List Nat} {p : Nat} (hp : p ≤ l.length) (hz : l.length ≤ 100000) (q : Q (.str (mkS (l.take p))) H) : GS C A (.str (mkS l)) none (some (p : Int)) none Q H := by
  have hi := idx_take p (mkS l).length (by rw [mkS_len]; exact hp)
  refine gs_str (x := mkS l) (y := mkS (l.take p)) (st := none) (by decide) (by rw [mkS_len]; exact hz) ?_ ?_ ?_ q
  · rw [str_slice, pySlice_take l p hp]
  · show (Builtin.Str.strSliceIndices none (some (p : Int)) 1 (mkS l).length).length ≤ _
    rw [hi, mkS_len]; simp; exact hp
  · intro hc
    have hc2 := (Bool.and_eq_true_iff.mp hc).2
    have : (Builtin.Str.strSliceIndices none (some (p : Int)) 1 (mkS l).length).length = (mkS l).length := eq_of_beq hc2
    rw [hi, mkS_len] at this
    simp at this
    rw [List.take_of_length_le (by lia)]
theorem gs_str_drop {l : List Nat} {p : Nat} (hp : p ≤ l.length) (hz : l.length ≤ 100000) (q : Q (.str (mkS (l.drop p))) H) : GS C A (.str (mkS l)) (some (p : Int)) none none Q H := by
  have hi := idx_drop p (mkS l).length (by rw [mkS_len]; exact hp)
  refine gs_str (x := mkS l) (y := mkS (l.drop p)) (st := none) (by decide) (by rw [mkS_len]; exact hz) ?_ ?_ ?_ q
  · rw [str_slice, pySlice_drop l p hp]
  · show (Builtin.Str.strSliceIndices (some (p : Int)) none 1 (mkS l).length).length ≤ _
    rw [hi, mkS_len]; simp
  · intro hc
    have hc2 := (Bool.and_eq_true_iff.mp hc).2
    have : (Builtin.Str.strSliceIndices (some (p : Int)) none 1 (mkS l).length).length = (mkS l).length := eq_of_beq hc2
    rw [hi, mkS_len] at this
    simp at this
    by_cases h0 : p = 0
    · subst h0; rfl
    · have : l = [] := List.length_eq_zero_iff.mp (by lia)
      subst this; simp
theorem dr_nats {a : Addr} {l : List Nat} (h : (a, AO.list (l.map fun d => V.int (d : Nat))) ∈ H) : DRel H (dIs (l.map Int.ofNat)) (.ref a) := dr_ints (by
  have e : intVs (l.map Int.ofNat) = l.map fun d => V.int (d : Nat) := by rw [intVs, List.map_map]; rfl
  rw [e]; exact h)
end
end
noncomputable section
section
variable {C : Cfg} {a : Ad} {A : Around} {H R : AH} {env : Env} {L cR cD cN : Addr}
noncomputable abbrev lets (ds : List Nat) : List Nat := ds.map fun d => 65 + d
noncomputable abbrev letW (ds : List Nat) : List (List Nat) := ds.map fun d => [65 + d]
theorem lets_W (ds : List Nat) : (lets ds).map (fun c => [c]) = letW ds := by rw [List.map_map]; rfl
theorem letW_small {ds : List Nat} (h : ∀ d ∈ ds, d < 16) : ∀ w ∈ letW ds, ∀ c ∈ w, c < 0x110000 := by
  intro w hw c hc
  obtain ⟨d, hd, rfl⟩ := List.mem_map.mp hw
  have := h d hd
  simp at hc; lia
theorem lets_small {ds : List Nat} (h : ∀ d ∈ ds, d < 16) : ∀ c ∈ lets ds, c < 0x110000 := by
  intro c hc
  obtain ⟨d, hd, rfl⟩ := List.mem_map.mp hc
  have := h d hd
  lia
theorem shA {st : Int} {ws us : List (List Nat)} (h1 : ∀ w ∈ ws, ∀ c ∈ w, c < 0x110000) (h2 : ∀ w ∈ us, ∀ c ∈ w, c < 0x110000) : SeqAt.shaped (.list [.int st, dSs ws, dSs us]) = true := by
  refine (dok_list (n := 2) fun d hd => ?_).shaped (by decide)
  simp only [List.mem_cons, List.not_mem_nil, or_false] at hd
  rcases hd with rfl | rfl | rfl
  · exact dok_int
  · exact dok_strs h1
  · exact dok_strs h2
theorem shB {w : List Nat} {l : List Int} (h1 : ∀ c ∈ w, c < 0x110000) : SeqAt.shaped (.list [dS w, dIs l, .list []]) = true := by
  refine (dok_list (n := 2) fun d hd => ?_).shaped (by decide)
  simp only [List.mem_cons, List.not_mem_nil, or_false] at hd
  rcases hd with rfl | rfl | rfl
  · exact dok_str h1
  · exact dok_ints
  · exact dok_list (n := 1) (by simp)
theorem outG_told {low : Nat} {tb : List (List Nat)} : ∀ {m s : Nat} {ds : List Nat} {s' : Nat} {told : List (List Nat)} {ds' : List Nat}, outG low tb m s ds = (s', told, ds') → told.length ≤ m
  | 0, s, ds, s', told, ds', h => by
    rw [outG] at h
    simp only [Prod.mk.injEq] at h
    obtain ⟨_, rfl, _⟩ := h
    simp
  | m + 1, s, ds, s', told, ds', h => by
    rw [outG] at h
    split at h
    · simp only [Prod.mk.injEq] at h
      obtain ⟨_, rfl, _⟩ := h
      simp
    · generalize ho : outG low tb m (dn tb (takeG low s ds).1) (takeG low s ds).2 = o at h
      obtain ⟨o1, o2, o3⟩ := o
      simp only [Prod.mk.injEq] at h
      obtain ⟨_, rfl, _⟩ := h
      have := outG_told ho
      simp; lia
theorem outG_lt {low : Nat} {tb : List (List Nat)} (hne : tb ≠ []) : ∀ {m s : Nat} {ds : List Nat} {s' : Nat} {told : List (List Nat)} {ds' : List Nat}, s < 16 * low → (∀ d ∈ ds, d < 16) → outG low tb m s ds = (s', told, ds') → s' < 16 * low
  | 0, s, ds, s', told, ds', hs, _, h => by
    rw [outG] at h
    simp only [Prod.mk.injEq] at h
    obtain ⟨rfl, _, _⟩ := h
    exact hs
  | m + 1, s, ds, s', told, ds', hs, hd, h => by
    obtain ⟨k1, k2, k3⟩ := takeG_lt (low := low) (Nat.le_refl _) hs hd
    rw [outG] at h
    split at h
    · simp only [Prod.mk.injEq] at h
      obtain ⟨rfl, _, _⟩ := h
      exact k1
    · generalize ho : outG low tb m (dn tb (takeG low s ds).1) (takeG low s ds).2 = o at h
      obtain ⟨o1, o2, o3⟩ := o
      simp only [Prod.mk.injEq] at h
      obtain ⟨rfl, _, _⟩ := h
      exact outG_lt hne (Nat.lt_of_le_of_lt (dn_le hne _) k1) k3 ho
theorem part14 {n sc : Nat} {tb : List (List Nat)} {tl hl fgl : Addr} {tr : Int} {figs : List Nat} {hv : List V} {v0 v1 v2 v9 v10 v12 v13 v14 v15 v16 v17 v18 v19 v20 v21 : Option V} (W : W3 C a) (hr : Room A 26) (FE : FEnv env L lawL [("reader", cR), ("drawn", cD), ("number", cN)] lawG)
    (hN : (cN, AO.cell (some (.int n))) ∈ R) (htl : (tl, AO.list (strVs tb)) ∈ R) (hhl : (hl, AO.list (.str (mkS (lets figs)) :: hv)) ∈ R) (hhz : hv.length ≤ 100) (hfl : (fgl, AO.list (natVs figs)) ∈ R) (hT : Tabs a R) (hn : n < 10 ^ 48) (hsc : 1 ≤ sc) (hsc2 : sc ≤ 2) (htb : 2 ≤ tb.length) (htz : tb.length ≤ 6) (htc : ∀ w ∈ tb, ∀ c ∈ w, c < 0x110000) (htw : ∀ w ∈ tb, w.length ≤ 100)
    (hf16 : ∀ d ∈ figs, d < 16) (hf0 : ∀ d r, figs = d :: r → d ≠ 0) (hfz : figs.length ≤ 12) (htr : tr.natAbs = 1) :
    WPS C A env (LB.drop 14) (QL a) ((L, .ns lawL [v0, v1, v2, some (.ref tl), some (.int sc), some (.int (sc * tb.length : Nat)), some (.int tr), some (.ref fgl), some (.str (mkS (lets figs))), v9, v10, some (.ref hl), v12, v13, v14, v15, v16, v17, v18, v19, v20, v21]) :: R) := by
  have G := W.G
  have hA := hr.hd
  have hT0 := hT
  obtain ⟨t1, t2, t3⟩ := hT
  have hne : tb ≠ [] := by intro e; subst e; simp at htb
  have hlow1 : 1 ≤ sc * tb.length := Nat.mul_pos hsc (by lia)
  have hlow2 : sc * tb.length ≤ 12 := Nat.mul_le_mul hsc2 htz
  generalize ho : outG (sc * tb.length) tb 6 0 figs = o
  obtain ⟨s', told, ds'⟩ := o
  obtain ⟨e, f, hef, hin, htold⟩ := ans_fwd hne 6 0 figs s' told ds' (by lia) hf16 (by lia) ho
  have hlf : figs.length = e.length + f.length + ds'.length := by rw [hef]; simp; lia
  have hd16 : ∀ d ∈ ds', d < 16 := fun d hd => hf16 d (by rw [hef]; exact List.mem_append_right _ (List.mem_append_right _ hd))
  have htz6 : told.length ≤ 6 := outG_told ho
  have hs16 : s' < 16 * (sc * tb.length) := outG_lt hne (by lia) hf16 ho
  generalize hlw : sc * tb.length = low at *
  refine wps_cons ?_
  repeat walk_at "s"
  refine gi_list (by walk_at "mem") (by decide) rfl (by simp; lia) ?_
  repeat walk_at "s"
  refine sp_lineS W (hr.mono (by decide)) (by walk_at "mem") (by simp; lia) ?_
  intro x2 dx2 pb2 fp2
  rw [lets_W]
  repeat walk_at "s"
  refine wp1_Assign ?_
  repeat walk_at "s"
  refine sp_out (m := 6) (K := fun u => (x2, .obj (instObj a.cls dx2)) :: (dx2, .attrs (netA 1 fp2 pb2)) :: (pb2, u) :: (L, _) :: R) W (hr.mono (by decide)) (.tail (.tail .head)) (fun u => by walk_at "mem") (fun u => by walk_at "mem") (fun u => by walk_at "mem") (fun u => (((hT0.cons _).cons _).cons _).cons _) (by lia) hf16 (Nat.lt_of_le_of_lt hlow2 (Nat.lt_of_lt_of_le (by decide : 12 < 2 ^ 4) (Nat.pow_le_pow_right (by decide) (by decide)))) hne (by lia) (by decide) ho ?_
  intro x3 dx3 pb3 fp3
  refine asg_Tuple hA (wpas_cons ?_)
  repeat walk_at "s"
  refine wpas_cons ?_
  repeat walk_at "s"
  refine wpas_nil ?_
  repeat walk_at "s"
  refine wp1_Assign ?_
  repeat walk_at "s"
  refine sp_counted (m := 6) W (hr.mono (by decide)) (by walk_at "mem") (by walk_at "mem") (by lia) hf16 (by lia) hne (by lia) (by decide) ho ?_
  intro tt
  refine asg_Tuple hA (wpas_cons ?_)
  repeat walk_at "s"
  refine wpas_cons ?_
  repeat walk_at "s"
  refine wpas_cons ?_
  repeat walk_at "s"
  refine wpas_nil ?_
  generalize hus : figs.length - ds'.length = us
  have hus2 : us = e.length + f.length := by lia
  repeat walk_at "s"
  refine ga_pb W (by walk_at "mem") (by walk_at "mem") ?_
  repeat walk_at "s"
  refine ga_pb W (by walk_at "mem") (by walk_at "mem") ?_
  repeat walk_at "s"
  intro k1
  repeat walk_at "s"
  refine gs_str_drop (by simp; lia) (by simp; lia) ?_
  repeat walk_at "s"
  refine c_list_str hA (by rw [mkS_len]; simp; lia) ?_
  intro k2
  have ed : (mkS ((lets figs).drop us)).cps.toList.map (fun c => V.str ⟨#[c]⟩) = strVs (letW ds') := by
    have e1 : figs.drop us = ds' := by
      rw [hef, hus2, ← List.append_assoc]
      exact List.drop_left' (by simp)
    have e2 : (lets figs).drop us = lets ds' := by rw [← e1]; simp
    rw [e2]
    show (lets ds').map _ = _
    rw [← lets_W]; simp
  rw [ed]
  repeat walk_at "s"
  intro k3
  refine op_ne_data (d := .list [.int s', dSs told, dSs (letW ds')]) (e := .list [.int s', dSs told, dSs (letW ds')]) (dr_list (by walk_at "mem") (ds_cons dr_int (ds_cons (dr_strs (by walk_at "mem")) (ds_cons (dr_strs (by walk_at "mem")) ds_nil))))
    (dr_list (by walk_at "mem") (ds_cons dr_int (ds_cons (dr_strs (by walk_at "mem")) (ds_cons (dr_strs (by walk_at "mem")) ds_nil)))) ?_ ?_ hr.line ?_
  · exact shA (fun w hw => htc w (htold w hw)) (letW_small hd16)
  · exact shA (fun w hw => htc w (htold w hw)) (letW_small hd16)
  rw [eqv_cons, eqv_cons, eqv_cons, eqv_int, eqv_strs, eqv_strs, eqv_nil]
  simp only [decide_true, Bool.and_self, Bool.not_true]
  repeat walk_at "s"
  refine ⟨fun h => (nomatch h), fun _ => ?_⟩
  refine WP.sub (H' := (x3, .obj (instObj a.cls dx3)) :: (dx3, .attrs (netA 1 fp3 pb3)) :: (pb3, .list (strVs told)) :: (L, _) :: R) (.drop (.drop (.drop (.drop (.pick .head (.pick .head (.pick .head (.drop (.drop (.drop (.refl _))))))))))) ?_
  repeat walk_at "s"
  refine wp1_Assign ?_
  repeat walk_at "s"
  refine sp_in (ws := told) (K := fun u => (x3, .obj (instObj a.cls dx3)) :: (dx3, .attrs (netA 1 fp3 pb3)) :: (pb3, u) :: (L, _) :: R) W (hr.mono (by decide)) (.tail (.tail .head)) (fun u => by walk_at "mem") (fun u => by walk_at "mem") (fun u => by walk_at "mem") (fun u => (((hT0.cons _).cons _).cons _).cons _) htold (by lia) (by lia) (by lia) (by lia) hin ?_
  have hB : vl (f.reverse ++ [pn 0 e]) = pn 0 (e ++ f) := by rw [pn_app]; exact (pn_vl (pn 0 e) f).symm
  rw [d2i_vl, hB]
  have hUl : e ++ f = figs.take us := by
    rw [hef, hus2, ← List.append_assoc]
    exact (List.take_left' (by simp)).symm
  have hU16 : ∀ d ∈ e ++ f, d < 16 := fun d hd => hf16 d (by rw [hUl] at hd; exact List.mem_of_mem_take hd)
  have hU0 : ∀ d r, e ++ f = d :: r → d ≠ 0 := by
    intro d r hdr
    refine hf0 d (r ++ ds') ?_
    rw [hef, ← List.append_assoc, hdr]; rfl
  have hhx := hxd_pn0 hU16 hU0
  have hUlen : (e ++ f).length ≤ 12 := by simp; lia
  generalize hBB : pn 0 (e ++ f) = B at hhx
  have hB12 : B < 16 ^ 12 := by
    have h1 := vl_lt (hxd_lt B)
    rw [vl_hxd, hhx] at h1
    exact Nat.lt_of_lt_of_le h1 (Nat.pow_le_pow_right (by decide) (by rw [List.length_reverse]; exact hUlen))
  refine asg_Tuple hA (wpas_cons ?_)
  repeat walk_at "s"
  refine wpas_cons ?_
  repeat walk_at "s"
  refine wpas_nil ?_
  repeat walk_at "s"
  have hBn : B < 2 ^ 60 := Nat.lt_of_lt_of_le hB12 (by decide)
  refine op_mul_int (mulOk (k := 10) (l := 60) (by rw [htr]; decide) (by rw [Int.natAbs_natCast]; exact hBn) (by decide)) ?_
  repeat walk_at "s"
  have hBa : (tr * (B : Int)).natAbs = B := by rw [Int.natAbs_mul, htr, Int.natAbs_natCast, Nat.one_mul]
  refine sp_word W (hr.mono (by decide)) (by rw [hBa]; exact Nat.lt_trans hBn (Nat.lt_of_lt_of_le (by decide : 2 ^ 60 < 16 ^ 16) (Nat.pow_le_pow_right (by decide) (by decide)))) ?_
  have ew : wordL (tr * (B : Int)).natAbs = lets (e ++ f) := by rw [hBa, wordL_hxd, hhx, List.reverse_reverse]
  rw [ew]
  repeat walk_at "s"
  refine sp_int2digits (n := 4) W (hr.mono (by decide)) (by decide) (Nat.lt_trans hBn (Nat.pow_lt_pow_right (by decide) (by decide))) (by decide) (by walk_at "mem") ?_
  intro k4
  rw [digs_hxd, hhx]
  repeat walk_at "s"
  intro k5
  repeat walk_at "s"
  refine gs_str_take (by simp; lia) (by simp; lia) ?_
  have etk : (lets figs).take us = lets (e ++ f) := by rw [hUl]; simp
  rw [etk]
  repeat walk_at "s"
  refine gs_list (by walk_at "mem") (by decide) (by simp; lia) ?_
  intro k6
  have etf : pySlice (natVs figs) none (some (us : Int)) none = natVs (e ++ f) := by
    rw [pySlice_take _ _ (by simp; lia), hUl]; simp
  rw [etf]
  repeat walk_at "s"
  refine gs_list (by walk_at "mem") (by decide) (by simp; lia) ?_
  intro k7
  have erv : pySlice (natVs (e ++ f)) none none (some (-1)) = natVs (e ++ f).reverse := by
    rw [pySlice_rev]; simp
  rw [show pySlice (natVs (e ++ f)) none none (some (-(1 : Int))) = natVs (e ++ f).reverse from erv]
  repeat walk_at "s"
  intro k8
  repeat walk_at "s"
  intro k9
  refine op_ne_data (d := .list [dS (lets (e ++ f)), dIs ((e ++ f).reverse.map Int.ofNat), .list []]) (e := .list [dS (lets (e ++ f)), dIs ((e ++ f).reverse.map Int.ofNat), .list []]) (dr_list (by walk_at "mem") (ds_cons dr_str (ds_cons (dr_nats (by walk_at "mem")) (ds_cons (dr_list (by walk_at "mem") ds_nil) ds_nil))))
    (dr_list (by walk_at "mem") (ds_cons dr_str (ds_cons (dr_nats (by walk_at "mem")) (ds_cons (dr_list (by walk_at "mem") ds_nil) ds_nil)))) ?_ ?_ hr.line ?_
  · exact shB (lets_small hU16)
  · exact shB (lets_small hU16)
  rw [eqv_cons, eqv_cons, eqv_cons, eqv_str, eqv_ints, eqv_nil]
  simp only [decide_true, Bool.and_self, Bool.not_true]
  repeat walk_at "s"
  refine ⟨fun h => (nomatch h), fun _ => ?_⟩
  refine WP.sub (H' := (L, _) :: R) (.drop (.drop (.drop (.drop (.drop (.drop (.drop (.drop (.drop (.refl _)))))))))) ?_
  refine wps_nil ?_
  subst hlw
  exact part20 W hr FE hN htl hT0 hn hsc hsc2 htb htz htc htw
end
end
noncomputable section
section
variable {C : Cfg} {a : Ad} {A : Around} {H R : AH} {env : Env} {L cR cD cN : Addr}
noncomputable def cs7 (cs : List Nat) : List Nat := (cs.take 9).drop 8 ++ (cs.take 7).drop 1
theorem shC {i : Int} {ws : List (List Nat)} (h1 : ∀ w ∈ ws, ∀ c ∈ w, c < 0x110000) : SeqAt.shaped (.list [dSs ws, .list [], .int i]) = true := by
  refine (dok_list (n := 2) fun d hd => ?_).shaped (by decide)
  simp only [List.mem_cons, List.not_mem_nil, or_false] at hd
  rcases hd with rfl | rfl | rfl
  · exact dok_strs h1
  · exact dok_list (n := 1) (by simp)
  · exact dok_int
inductive PnC (tb : List (List Nat)) (tx : List Nat) (figs : List Nat) (c : Addr) (b : Addr) (m2 : Addr) (m1 : Addr) (K : AO → AO → AH) (fp : Addr) (pb : Addr) (i : Nat) (acc : List V) (H₁ : AH) : Prop
  | mk (h1 : i ≤ tb.length + 3) (cs' : List Nat) (n' : Int) (ta rest : List (List Nat)) (p : Option V) (h2 : toks (tb.length + 3 - i) cs' n' = (rest, [], 1 + nl tx)) (h3 : ta ++ rest = lets figs :: tb ++ [[], []]) (h4 : ta.length = i) (h5 : acc = strVs ta) (h6 : cs'.length ≤ 80000) (h7 : H₁ = (c, .ns ["word"] [p]) :: (b, .list acc) :: (m2, .list (strVs tb ++ [.str "", .str "", .str ""])) :: (m1, .list [.str "", .str "", .str ""]) :: K (.list (signVs cs')) (.attrs (netA n' (.ref fp) pb))) : PnC tb tx figs c b m2 m1 K fp pb i acc H₁
theorem part9 {n d sc : Nat} {tb : List (List Nat)} {tl fgl cll : Addr} {tr : Int} {figs cs : List Nat} {v0 v1 v9 v10 v11 v12 v13 v14 v15 v16 v17 v18 v19 v20 v21 vR : Option V} (W : W3 C a) (hr : Room A 26) (FE : FEnv env L lawL [("reader", cR), ("drawn", cD), ("number", cN)] lawG)
    (hN : (cN, AO.cell (some (.int n))) ∈ R) (hD : (cD, AO.cell (some (.int d))) ∈ R) (htl : (tl, AO.list (strVs tb)) ∈ R) (hfl : (fgl, AO.list (natVs figs)) ∈ R) (hcl : (cll, AO.list (natVs cs)) ∈ R) (hcz : cs.length = 12) (hT : Tabs a R) (hn : n < 10 ^ 48) (hd : d < 10 ^ 12) (hsc : 1 ≤ sc) (hsc2 : sc ≤ 2) (htb : 2 ≤ tb.length) (htz : tb.length ≤ 6) (htc : ∀ w ∈ tb, ∀ c ∈ w, c < 0x110000) (htw : ∀ w ∈ tb, w.length ≤ 100) (hto : ∀ w ∈ tb, wordOk w)
    (hf : figs = (hxd d).reverse) (htr : tr.natAbs = 1) :
    WPS C A env (LB.drop 9) (QL a) ((L, .ns lawL [v0, v1, some (.ref cll), some (.ref tl), some (.int sc), some (.int (sc * tb.length : Nat)), some (.int tr), some (.ref fgl), some (.str (mkS (lets figs))), v9, v10, v11, v12, v13, v14, v15, v16, v17, v18, v19, v20, v21]) :: (cR, .cell vR) :: R) := by
  have G := W.G
  have hA := hr.hd
  have hT0 := hT
  obtain ⟨t1, t2, t3⟩ := hT
  have hd60 : d < 2 ^ 60 := Nat.lt_of_lt_of_le hd (by decide)
  have hfz : figs.length ≤ 10 := by
    rw [hf, List.length_reverse]
    exact hxd_len 10 d (Nat.lt_of_lt_of_le hd (by decide))
  have hf16 : ∀ e ∈ figs, e < 16 := fun e he => hxd_lt d e (by rw [hf] at he; exact List.mem_reverse.mp he)
  have hf0 : ∀ e r, figs = e :: r → e ≠ 0 := by
    intro e r he
    have hd0 : d ≠ 0 := by intro h; rw [hf, h, hxd_zero] at he; simp at he
    obtain ⟨l, t, h1, h2⟩ := hxd_top hd0
    rw [hf, h1, List.reverse_append] at he
    simp at he
    rw [← he.1]; exact h2
  refine wps_cons ?_
  repeat walk_at "s"
  refine op_mul_int (mulOk (k := 10) (l := 60) (by rw [htr]; decide) (by rw [Int.natAbs_natCast]; exact hd60) (by decide)) ?_
  have hda : (tr * (d : Int)).natAbs = d := by rw [Int.natAbs_mul, htr, Int.natAbs_natCast, Nat.one_mul]
  repeat walk_at "s"
  refine sp_word W (hr.mono (by decide)) (by rw [hda]; exact Nat.lt_trans hd60 (Nat.lt_of_lt_of_le (by decide : 2 ^ 60 < 16 ^ 16) (Nat.pow_le_pow_right (by decide) (by decide)))) ?_
  rw [hda, wordL_hxd, ← hf]
  repeat walk_at "s"
  intro l1
  repeat walk_at "s"
  refine op_add_list (by walk_at "mem") (by walk_at "mem") (by simp; lia) ?_
  intro l2
  have e1 : [V.str (mkS (List.map (fun d => 65 + d) figs))] ++ strVs tb = strVs (lets figs :: tb) := rfl
  rw [e1]
  repeat walk_at "s"
  refine gs_list (by walk_at "mem") (by decide) (by simp; lia) ?_
  intro l3
  repeat walk_at "s"
  refine gs_list (by walk_at "mem") (by decide) (by simp; lia) ?_
  intro l4
  have e8 : pySlice (natVs cs) (some 8) (some 9) none = ((natVs cs).take 9).drop 8 := pySlice_mid _ 8 9 (by decide)
  have e7 : pySlice (natVs cs) (some 1) (some 7) none = ((natVs cs).take 7).drop 1 := pySlice_mid _ 1 7 (by decide)
  have e2 : ((natVs cs).take 9).drop 8 ++ ((natVs cs).take 7).drop 1 = natVs (cs7 cs) := by simp [cs7]
  rw [e8, e7]
  refine op_add_list (by walk_at "mem") (by walk_at "mem") (by simp; lia) ?_
  intro l5
  rw [e2]
  have h7 : (cs7 cs).length = 7 := by simp [cs7, hcz]
  have hwok : ∀ w ∈ lets figs :: tb, wordOk w := by
    intro w hw
    rcases List.mem_cons.mp hw with rfl | hw
    · intro s hs
      obtain ⟨e, he, rfl⟩ := List.mem_map.mp hs
      have := hf16 e he
      lia
    · exact hto w hw
  have hw100 : ∀ w ∈ lets figs :: tb, w.length ≤ 100 := by
    intro w hw
    rcases List.mem_cons.mp hw with rfl | hw
    · simp; lia
    · exact htw w hw
  have hwsm : ∀ w ∈ lets figs :: tb, ∀ c ∈ w, c < 0x110000 := by
    intro w hw
    rcases List.mem_cons.mp hw with rfl | hw
    · exact lets_small hf16
    · exact htc w hw
  repeat walk_at "s"
  refine sp_text W (hr.mono (by decide)) (by walk_at "mem") (by walk_at "mem") (by simp; lia) hw100 ?_
  have htks := toks_text (lets figs :: tb) (cs7 cs) [] 1 (by rw [h7]; simp; lia) hwok (by simp)
  have htxl : (textG (lets figs :: tb) (cs7 cs)).flatten.length ≤ 205 * 7 := by
    have := textG_le (ws := lets figs :: tb) (cs := cs7 cs) hw100 7
    rwa [List.take_of_length_le (by simp [textG]; lia)] at this
  rw [List.nil_append, nl_nil, Int.add_zero] at htks
  generalize (textG (lets figs :: tb) (cs7 cs)).flatten = tx at htks htxl
  have hwsm2 : ∀ w ∈ lets figs :: tb ++ [[], []], ∀ c ∈ w, c < 0x110000 := by
    intro w hw
    rcases List.mem_append.mp hw with hw | hw
    · exact hwsm w hw
    · simp at hw; subst hw; simp
  refine Op1.sub (H' := (L, _) :: (cR, _) :: R) (.drop (.drop (.drop (.drop (.drop (.refl _)))))) ?_
  repeat walk_at "s"
  refine c_list_str hA (by rw [mkS_len]; lia) ?_
  intro ll
  have els : (mkS tx).cps.toList.map (fun c => V.str ⟨#[c]⟩) = signVs tx := rfl
  rw [els]
  repeat walk_at "s"
  refine sp_reader W (hr.mono (by decide)) (by walk_at "mem") ?_
  intro x dx pb fd fp rd cl
  repeat walk_at "s"
  have FE0 := FE
  refine wp1_LC (ln' := ["word"]) (gn' := []) (fs := ["reader"]) (cs := [cR]) FE (by walk_at "cp") (by decide +kernel) (by simp) (by walk_at "mem") (by decide +kernel) ?_
  refine wpi_value ?_
  repeat walk_at "s"
  intro m1
  repeat walk_at "s"
  refine op_add_list (by walk_at "mem") (by walk_at "mem") (by simp; lia) ?_
  intro m2
  refine pi_list hA (by walk_at "mem") ?_
  intro b c cenv FE
  replace FE : FEnv cenv c ["word"] [("reader", cR)] [] := FE
  obtain ⟨K, hK⟩ : ∃ K : AO → AO → AH, K = fun u v => (x, AO.obj (instObj a.cls dx)) :: (dx, v) :: (pb, .list []) :: (fd, .attrs [("read", .ref rd)]) :: (fp, .fobj fd) :: (rd, .fn (F_lam [("left", cl)])) :: (cl, .cell (some (.ref ll))) :: (ll, u) :: (L, AO.ns lawL [v0, v1, some (.ref cll), some (.ref tl), some (.int sc), some (.int (sc * tb.length : Nat)), some (.int tr), some (.ref fgl), some (.str (mkS (lets figs))), some (.str (mkS tx)), some (.ref ll), v11, v12, v13, v14, v15, v16, v17, v18, v19, v20, v21]) :: (cR, .cell (some (.ref x))) :: R := ⟨_, rfl⟩
  have hk : ∀ u v, Hole2 ll u dx v (K u v) K := fun u v => by subst hK; exact .tail (.snd (.tail (.tail (.tail (.tail (.tail .head))))))
  have hRd : ∀ u v, Rd a x dx fp fd rd cl ll pb (K u v) := fun u v => by subst hK; exact ⟨by walk_at "mem", by walk_at "mem", by walk_at "mem", by walk_at "mem", by walk_at "mem"⟩
  have hpb : ∀ u v, (pb, AO.list []) ∈ K u v := fun u v => by subst hK; walk_at "mem"
  have hcR : ∀ u v, (cR, AO.cell (some (.ref x))) ∈ K u v := fun u v => by subst hK; walk_at "mem"
  refine ⟨PnC tb tx figs c b m2 m1 K fp pb, tb.length + 3, ?_, ?_⟩
  · subst hK
    exact ⟨Nat.zero_le _, tx, 1, [], _, none, htks, rfl, rfl, rfl, by lia, rfl⟩
  · rintro i acc H₁ _ ⟨hi, cs', n', ta, rest, p, hg, hta, htl', rfl, hcs, rfl⟩
    by_cases hil : i < tb.length + 3
    · left
      have hlen3 : (strVs tb ++ [V.str "", V.str "", V.str ""]).length = tb.length + 3 := by simp
      refine ⟨(strVs tb ++ [V.str "", V.str "", V.str ""])[i]'(by rw [hlen3]; exact hil), hil, ⟨_, by walk_at "mem", by rw [List.getElem?_eq_getElem (by rw [hlen3]; exact hil)]⟩, ?_⟩
      have hcR2 := hcR (.list (signVs cs')) (.attrs (netA n' (.ref fp) pb))
      have hx2 := (hRd (.list (signVs cs')) (.attrs (netA n' (.ref fp) pb))).x
      have hdx2 := (hk (.list (signVs cs')) (.attrs (netA n' (.ref fp) pb))).mem2 (.list (signVs cs')) (.attrs (netA n' (.ref fp) pb))
      repeat walk_at "s"
      refine ⟨fun _ => ?_, fun h => nomatch h⟩
      repeat walk_at "s"
      refine gm_get W (.tail _ (.tail _ (.tail _ (.tail _ hx2)))) (.tail _ (.tail _ (.tail _ (.tail _ hdx2)))) ?_
      repeat walk_at "s"
      have hni : tb.length + 3 - i = (tb.length + 3 - (i + 1)) + 1 := by lia
      rw [hni, toks] at hg
      have hlt := tGo_len cs' n'
      generalize htg : tGo cs' n' = tg at hg hlt
      obtain ⟨tok, cs2, n2⟩ := tg
      dsimp only at hg hlt
      generalize htk2 : toks (tb.length + 3 - (i + 1)) cs2 n2 = tk at hg
      obtain ⟨tk1, tk2⟩ := tk
      simp only [Prod.mk.injEq] at hg
      obtain ⟨rfl, rfl⟩ := hg
      refine sp_get_rd (K := fun u v => (c, .ns ["word"] [some ((strVs tb ++ [V.str "", V.str "", V.str ""])[i]'(by rw [hlen3]; exact hil))]) :: (b, .list (strVs ta)) :: (m2, .list (strVs tb ++ [.str "", .str "", .str ""])) :: (m1, .list [.str "", .str "", .str ""]) :: K u v) W (hr.mono (by decide)) (.tail (.tail (.tail (.tail (hk _ _))))) hcs (fun u v => ((((hRd u v).cons _).cons _).cons _).cons _) (fun u v => .tail _ (.tail _ (.tail _ (.tail _ (hpb u v))))) htg ?_
      refine ⟨by simp; lia, _, by walk_at "upd", hil, cs2, n2, ta ++ [tok], tk1, some ((strVs tb ++ [V.str "", V.str "", V.str ""])[i]'(by rw [hlen3]; exact hil)), htk2, by rw [← hta]; simp, by simp [htl'], ?_, by lia, rfl⟩
      simp only [strVs, List.map_append, List.map_cons, List.map_nil]
    · right
      have FE := FE0
      have hi' : i = tb.length + 3 := by lia
      subst hi'
      rw [Nat.sub_self, toks] at hg
      simp only [Prod.mk.injEq] at hg
      obtain ⟨rfl, rfl, rfl⟩ := hg
      rw [List.append_nil] at hta
      subst hta
      refine ⟨⟨_, by walk_at "mem", by simp⟩, ?_⟩
      subst hK
      refine Op1.sub (H' := (c, .ns ["word"] [p]) :: (b, _) :: (L, _) :: (x, .obj (instObj a.cls dx)) :: (dx, .attrs (netA (1 + nl tx) (.ref fp) pb)) :: (ll, .list (signVs [])) :: (cR, .cell (some (.ref x))) :: R) (.pick .head (.pick .head (.pick (.tail (.tail (.tail (.tail (.tail (.tail (.tail (.tail (.tail (.tail .head)))))))))) (.pick (.tail (.tail .head)) (.pick (.tail (.tail .head)) (.pick (.tail (.tail (.tail (.tail (.tail (.tail (.tail .head))))))) (.pick (.tail (.tail (.tail (.tail (.tail (.tail (.tail .head))))))) (.drop (.drop (.drop (.drop (.drop (.drop (.drop (.refl _))))))))))))))) ?_
      repeat walk_at "s"
      refine ⟨_, _, .head, ?_⟩
      repeat walk_at "s"
      refine ga_line W (by walk_at "mem") (by walk_at "mem") ?_
      repeat walk_at "s"
      intro k1
      repeat walk_at "s"
      intro k2
      repeat walk_at "s"
      refine op_add_list (by walk_at "mem") (by walk_at "mem") (by simp; lia) ?_
      intro k3
      repeat walk_at "s"
      intro k4
      repeat walk_at "s"
      refine op_add_list (by walk_at "mem") (by walk_at "mem") (by simp; lia) ?_
      intro k5
      have e5 : [V.str (mkS (lets figs))] ++ strVs tb ++ [V.str "", V.str ""] = strVs (lets figs :: tb ++ [[], []]) := by
        simp only [strVs, List.map_append, List.map_cons, List.map_nil, mkS_nil]
        rfl
      rw [e5]
      repeat walk_at "s"
      intro k6
      repeat walk_at "s"
      refine wpm_scount ?_
      repeat walk_at "s"
      refine c_scount ?_
      have e10 : ("\n" : Str) = ⟨#[10]⟩ := by decide +kernel
      rw [e10, count_sign]
      repeat walk_at "s"
      intro k7
      have eln : (1 : Int) + ((tx.count 10 : Nat) : Int) = 1 + nl tx := rfl
      rw [eln]
      refine op_ne_data (d := .list [dSs (lets figs :: tb ++ [[], []]), .list [], .int (1 + nl tx)]) (e := .list [dSs (lets figs :: tb ++ [[], []]), .list [], .int (1 + nl tx)]) (dr_list (by walk_at "mem") (ds_cons (dr_strs (by walk_at "mem")) (ds_cons (dr_list (vs := signVs []) (by walk_at "mem") ds_nil) (ds_cons dr_int ds_nil))))
        (dr_list (by walk_at "mem") (ds_cons (dr_strs (by walk_at "mem")) (ds_cons (dr_list (by walk_at "mem") ds_nil) (ds_cons dr_int ds_nil)))) ?_ ?_ hr.line ?_
      · exact shC hwsm2
      · exact shC hwsm2
      rw [eqv_cons, eqv_cons, eqv_cons, eqv_strs, eqv_int, eqv_nil]
      simp only [decide_true, Bool.and_self, Bool.not_true]
      repeat walk_at "s"
      refine ⟨fun h => (nomatch h), fun _ => ?_⟩
      refine WP.sub (H' := (L, _) :: (b, _) :: (cR, _) :: R) (.drop (.drop (.drop (.drop (.drop (.drop (.drop (.pick (.tail .head) (.pick .head (.pick (.tail (.tail (.tail .head))) (.drop (.drop (.drop (.refl _)))))))))))))) ?_
      refine wps_nil ?_
      exact part14 (R := (b, _) :: (cR, _) :: R) W hr FE (by walk_at "mem") (by walk_at "mem") (hv := strVs (tb ++ [[], []])) (.head _) (by simp; lia) (by walk_at "mem") ((hT0.cons _).cons _) hn hsc hsc2 htb htz htc htw hf16 hf0 (by lia) htr
end
end
noncomputable section
section
variable {C : Cfg} {a : Ad} {A : Around} {H R : AH} {env : Env} {L cR cD cN : Addr}
noncomputable def cellsL (n : Nat) : List Nat := (List.range 12).map fun k => n / 100 ^ k % 100
noncomputable def tw (c : Nat) : List Nat := match c % 4 with | 0 => [] | 1 => [97, 32, 98] | 2 => [35, 12, 34] | _ => [34, 10, 92]
theorem tw_small (c : Nat) : ∀ x ∈ tw c, x < 0x110000 := by
  unfold tw; intro x hx; split at hx <;> simp at hx <;> lia
theorem tw_len (c : Nat) : (tw c).length ≤ 100 := by unfold tw; split <;> simp
theorem tw_ok (c : Nat) : wordOk (tw c) := by
  unfold tw wordOk; intro x hx; split at hx <;> simp at hx <;> lia
inductive LwM (cR : Addr) (cD : Addr) (cN : Addr) (L : Addr) (sl : Addr) (H : AH) (H₁ : AH) : Prop
  | mk (n : Nat) (o : Option V) (h1 : n < 10 ^ 48) (h2 : H₁ = (cR, .cell none) :: (cD, .cell none) :: (cN, .cell (some (.int n))) :: (L, AO.ns lawL [some (.ref sl), o, none, none, none, none, none, none, none, none, none, none, none, none, none, none, none, none, none, none, none, none]) :: H) : LwM cR cD cN L sl H H₁
inductive LwN (ms : List Int) (s1 : Addr) (cR : Addr) (cD : Addr) (cN : Addr) (L : Addr) (sl : Addr) (H : AH) (i : Nat) (H₁ : AH) : Prop
  | mk (h1 : i ≤ ms.length) (n : Nat) (o : Option V) (h2 : n < 10 ^ 48) (h3 : H₁ = (s1, .list (intVs ms)) :: (cR, .cell none) :: (cD, .cell none) :: (cN, .cell (some (.int n))) :: (L, AO.ns lawL [some (.ref sl), o, none, none, none, none, none, none, none, none, none, none, none, none, none, none, none, none, none, none, none, none]) :: H) : LwN ms s1 cR cD cN L sl H i H₁
inductive LwC (n : Nat) (c : Addr) (b : Addr) (L : Addr) (sl : Addr) (o : Option V) (cR : Addr) (cN : Addr) (cD : Addr) (H : AH) (i : Nat) (acc : List V) (H₁ : AH) : Prop
  | mk (h1 : i ≤ 12) (h2 : acc = natVs ((cellsL n).take i)) (p : Option V) (h3 : H₁ = (c, .ns ["k"] [p]) :: (b, .list acc) :: (L, AO.ns lawL [some (.ref sl), o, none, none, none, none, none, none, none, none, none, none, none, none, none, none, none, none, none, none, none, none]) :: (cR, .cell none) :: (cN, .cell (some (.int n))) :: (cD, .cell none) :: H) : LwC n c b L sl o cR cN cD H i acc H₁
inductive LwT (ts : List Nat) (c2 : Addr) (b2 : Addr) (s2 : Addr) (L : Addr) (sl : Addr) (o : Option V) (b : Addr) (cR : Addr) (cN : Addr) (n : Nat) (cD : Addr) (cl : List Nat) (H : AH) (i : Nat) (acc : List V) (H₁ : AH) : Prop
  | mk (h1 : i ≤ ts.length) (h2 : acc = strVs ((ts.take i).map tw)) (p : Option V) (h3 : H₁ = (c2, .ns ["cell"] [p]) :: (b2, .list acc) :: (s2, .list (natVs ts)) :: (L, AO.ns lawL [some (.ref sl), o, some (.ref b), none, none, none, none, none, none, none, none, none, none, none, none, none, none, none, none, none, none, none]) :: (cR, .cell none) :: (cN, .cell (some (.int n))) :: (cD, .cell none) :: (b, .list (natVs cl)) :: H) : LwT ts c2 b2 s2 L sl o b cR cN n cD cl H i acc H₁
inductive LwD (d : Nat) (c3 : Addr) (b3 : Addr) (L : Addr) (sl : Addr) (o : Option V) (b : Addr) (b2 : Addr) (sc : Nat) (tb : List (List Nat)) (tr : Int) (cR : Addr) (cN : Addr) (n : Nat) (cD : Addr) (cl : List Nat) (H : AH) (i : Nat) (acc : List V) (H₁ : AH) : Prop
  | mk (h1 : i ≤ ndig d 4) (h2 : acc = natVs ((digs d 4 (ndig d 4)).take i)) (p : Option V) (h3 : H₁ = (c3, .ns ["k"] [p]) :: (b3, .list acc) :: (L, AO.ns lawL [some (.ref sl), o, some (.ref b), some (.ref b2), some (.int sc), some (.int (sc * tb.length : Nat)), some (.int tr), none, none, none, none, none, none, none, none, none, none, none, none, none, none, none]) :: (cR, .cell none) :: (cN, .cell (some (.int n))) :: (cD, .cell (some (.int d))) :: (b2, .list (strVs tb)) :: (b, .list (natVs cl)) :: H) : LwD d c3 b3 L sl o b b2 sc tb tr cR cN n cD cl H i acc H₁
inductive LwF (figs : List Nat) (c5 : Addr) (b5 : Addr) (b4 : Addr) (b3 : Addr) (d : Nat) (L : Addr) (sl : Addr) (o : Option V) (b : Addr) (b2 : Addr) (sc : Nat) (tb : List (List Nat)) (tr : Int) (cR : Addr) (cN : Addr) (n : Nat) (cD : Addr) (cl : List Nat) (H : AH) (i : Nat) (acc : List V) (H₁ : AH) : Prop
  | mk (h1 : i ≤ figs.length) (h2 : acc = strVs (letW (figs.take i))) (p : Option V) (h3 : H₁ = (c5, .ns ["figure"] [p]) :: (b5, .list acc) :: (b4, .list (natVs figs)) :: (b3, .list (natVs (hxd d))) :: (L, AO.ns lawL [some (.ref sl), o, some (.ref b), some (.ref b2), some (.int sc), some (.int (sc * tb.length : Nat)), some (.int tr), some (.ref b4), none, none, none, none, none, none, none, none, none, none, none, none, none, none]) :: (cR, .cell none) :: (cN, .cell (some (.int n))) :: (cD, .cell (some (.int d))) :: (b2, .list (strVs tb)) :: (b, .list (natVs cl)) :: H) : LwF figs c5 b5 b4 b3 d L sl o b b2 sc tb tr cR cN n cD cl H i acc H₁
theorem sp_law {aL sl : Addr} {cd : Value} {its : Array Value} {ns : List Int} {H : AH} (W : W3 C a) (hr : Room A 27) (hF : FnAt C.B aL F_law cd) (hsl : C.B.IsList sl its) (hns : IntsAre its.toList ns) (hnz : ns.length ≤ 1000) (hT : Tabs a H) :
    CodeC C A aL [.ref sl] (fun v H' => v = .bool true ∧ Tabs a H') H := by
  have G := W.G
  refine code_okC ok_law G (fun s R => hF.keeps R.keep) hr rfl rfl rfl (vals := [some (.ref sl), none, none, none, none, none, none, none, none, none, none, none, none, none, none, none, none, none, none, none, none, none]) rfl (VOk.get (.some .head (.rest rfl))) fun L cs A' env hcs hr' FE he => ?_
  · obtain ⟨cR, cD, cN, rfl⟩ := cells3 hcs
    refine ⟨_, .other (.other (.other .nil)), ?_⟩
    have hA := hr'.hd
    simp only [List.cons_append, List.nil_append]
    repeat walk_at "s"
    refine wp1_mid (LwM cR cD cN L sl H) ?_ ?_
    · refine wp1_For (wpi_value ?_)
      repeat walk_at "s"
      refine gs_base hsl hns (by decide) (by lia) ?_
      intro s1
      rw [show pySlice (intVs ns) none (some 60) none = intVs (ns.take 60) by rw [show (60 : Int) = ((60 : Nat) : Int) from rfl, pySlice_upto]; simp]
      generalize ns.take 60 = ms
      refine pi_list hA (by walk_at "mem") ?_
      refine ⟨LwN ms s1 cR cD cN L sl H, ms.length, ?_, ?_⟩
      · exact ⟨Nat.zero_le _, 604417739508731948205937912283166507445938131827, none, by decide, rfl⟩
      · rintro i H₁ ⟨hi, n, o, hn, rfl⟩
        by_cases hlt : i < ms.length
        · left
          refine ⟨.int ms[i], hlt, ⟨intVs ms, by walk_at "mem", by simp [hlt]⟩, ?_⟩
          repeat walk_at "s"
          refine op_mul_int (mulOk (k := 10) (l := 200) (by decide) (by rw [Int.natAbs_natCast]; exact Nat.lt_trans hn (by decide)) (by decide)) ?_
          repeat walk_at "s"
          refine op_pow_int (by decide) (by decide) ?_
          refine op_mod_int (by decide +kernel) ?_
          have hp : (0 : Int) < (10 : Int) ^ (48 : Int).toNat := by decide +kernel
          have hm1 := Int.fmod_nonneg_of_pos (7 * (n : Int) + ms[i]) hp
          have hm2 := Int.fmod_lt_of_pos (7 * (n : Int) + ms[i]) hp
          generalize (7 * (n : Int) + ms[i]).fmod ((10 : Int) ^ (48 : Int).toNat) = z at hm1 hm2
          obtain ⟨m, rfl⟩ := Int.eq_ofNat_of_zero_le hm1
          have hmm : m < 10 ^ 48 := by
            have e : (10 : Int) ^ (48 : Int).toNat = ((10 ^ 48 : Nat) : Int) := by decide +kernel
            rw [e] at hm2
            exact Int.ofNat_lt.mp hm2
          repeat walk_at "s"
          exact ⟨hlt, m, some (.int ms[i]), hmm, rfl⟩
        · right
          have hi' : i = ms.length := by lia
          subst hi'
          refine ⟨⟨intVs ms, by walk_at "mem", by simp⟩, ?_⟩
          refine WP.sub (.drop (.refl _)) ?_
          repeat walk_at "s"
          exact ⟨rfl, n, o, hn, rfl⟩
    · rintro H₁ ⟨n, o, hn, rfl⟩
      have FE0 := FE
      have hns' : ∀ k, k < 12 → n / 100 ^ k % 100 < 100 := fun k _ => Nat.mod_lt _ (by decide)
      refine WP.sub (H' := (L, _) :: (cR, _) :: (cN, _) :: (cD, _) :: H) (.pick (.tail (.tail (.tail .head))) (.pick .head (.pick (.tail .head) (.pick .head (.refl _))))) ?_
      obtain ⟨h1, h2, h3⟩ := hT
      repeat walk_at "s"
      refine wp1_LC (ln' := ["k"]) (gn' := []) (fs := ["number"]) (cs := [cN]) FE (by walk_at "cp") (by decide +kernel) (by simp) (by walk_at "mem") (by decide +kernel) ?_
      refine wpi_Call ?_
      repeat walk_at "s"
      refine ci_range1 hA (by decide) ?_
      intro b c cenv FE
      replace FE : FEnv cenv c ["k"] [("number", cN)] [] := FE
      refine ⟨LwC n c b L sl o cR cN cD H, 12, ?_, ?_⟩
      · exact ⟨Nat.zero_le _, rfl, none, rfl⟩
      · rintro i acc H₁ _ ⟨hi, rfl, p, rfl⟩
        by_cases hlt : i < 12
        · left
          refine ⟨.int i, hlt, range_some (by lia), ?_⟩
          repeat walk_at "s"
          refine ⟨fun _ => ?_, fun h => nomatch h⟩
          repeat walk_at "s"
          refine op_pow_int (by lia) ?_ ?_
          · have : Builtin.Int.intBits (100 : Int) ≤ 7 := intBits_le (by decide)
            have h27 : (2 : Int) ^ 27 = 134217728 := rfl
            have hm : (Builtin.Int.intBits (100 : Int) : Int) * (i : Int) ≤ 7 * 12 := Int.mul_le_mul (by lia) (by lia) (by lia) (by decide)
            rw [h27]; lia
          rw [show (100 : Int) ^ ((i : Nat) : Int).toNat = ((100 ^ i : Nat) : Int) by rw [Int.toNat_natCast]; push_cast; rfl]
          have hp : 0 < 100 ^ i := Nat.pow_pos (by decide)
          have hpl : 100 ^ i ≤ 100 ^ 12 := Nat.pow_le_pow_right (by decide) (by lia)
          refine op_floordiv_int (by lia) (noPy (by rw [Int.natAbs_natCast]; exact Nat.lt_of_le_of_lt hpl (Nat.lt_of_lt_of_le (by decide : 100 ^ 12 < 2 ^ 100) (Nat.pow_le_pow_right (by decide) (by decide))))) ?_
          rw [fdiv_nat]
          repeat walk_at "s"
          refine op_mod_int (by decide) ?_
          rw [show ((n / 100 ^ i : Nat) : Int).fmod 100 = ((n / 100 ^ i % 100 : Nat) : Int) from fmod_nat _ 100]
          refine ⟨by simp; lia, _, by walk_at "upd", hlt, ?_, _, rfl⟩
          have e : (cellsL n).take (i + 1) = (cellsL n).take i ++ [n / 100 ^ i % 100] := by
            rw [List.take_succ_eq_append_getElem (by simp [cellsL]; exact hlt)]; simp [cellsL]
          rw [e]; simp
        · right
          have FE := FE0
          have hi' : i = 12 := by lia
          subst hi'
          refine ⟨range_none (by decide), ?_⟩
          rw [List.take_of_length_le (by simp [cellsL])]
          have hcl12 : (cellsL n).length = 12 := by simp [cellsL]
          have hc100 : ∀ x ∈ cellsL n, x < 100 := by
            intro x hx
            obtain ⟨k, _, rfl⟩ := List.mem_map.mp hx
            exact Nat.mod_lt _ (by decide)
          repeat walk_at "s"
          refine ⟨_, _, .head, ?_⟩
          refine WP.sub (H' := (L, _) :: (cR, _) :: (cN, _) :: (cD, _) :: (b, _) :: H) (.pick (.tail .head) (.pick (.tail .head) (.pick (.tail .head) (.pick (.tail .head) (.pick .head (.refl _)))))) ?_
          generalize cellsL n = cl at hcl12 hc100
          repeat walk_at "s"
          have hgc : ∀ j, j < 12 → (natVs cl)[((j : Nat) : Int).toNat]? = some (.int (cl.getD j 0 : Nat)) := fun j hj => by
            rw [Int.toNat_natCast, List.getElem?_map, List.getD_eq_getElem?_getD, List.getElem?_eq_getElem (by lia)]; rfl
          refine wp1_LC (ln' := ["cell"]) (gn' := ["chr"]) (fs := []) (cs := []) FE (by walk_at "cp") (by decide +kernel) (by simp) (by walk_at "mem") (by decide +kernel) ?_
          refine wpi_value ?_
          repeat walk_at "s"
          refine gi_list (i := ((0 : Nat) : Int)) (by walk_at "mem") (by decide) (hgc 0 (by decide)) (by simp; lia) ?_
          repeat walk_at "s"
          refine op_mod_int (by decide) ?_
          rw [show ((cl.getD 0 0 : Nat) : Int).fmod 5 = ((cl.getD 0 0 % 5 : Nat) : Int) from fmod_nat _ 5]
          repeat walk_at "s"
          refine gs_list (by walk_at "mem") (by decide) (by simp; lia) ?_
          intro s2
          have e35 : (3 : Int) + ((cl.getD 0 0 % 5 : Nat) : Int) = ((3 + cl.getD 0 0 % 5 : Nat) : Int) := by push_cast; rfl
          have h5 : cl.getD 0 0 % 5 < 5 := Nat.mod_lt _ (by decide)
          rw [e35, show pySlice (natVs cl) (some 1) (some ((3 + cl.getD 0 0 % 5 : Nat) : Int)) none = ((natVs cl).take (3 + cl.getD 0 0 % 5)).drop 1 from pySlice_mid _ 1 _ (by lia)]
          have ets : ((natVs cl).take (3 + cl.getD 0 0 % 5)).drop 1 = natVs ((cl.take (3 + cl.getD 0 0 % 5)).drop 1) := by simp
          rw [ets]
          have htl : ((cl.take (3 + cl.getD 0 0 % 5)).drop 1).length = 2 + cl.getD 0 0 % 5 := by simp; lia
          generalize (cl.take (3 + cl.getD 0 0 % 5)).drop 1 = ts at htl
          refine pi_list hA (by walk_at "mem") ?_
          intro b2 c2 cenv2 FE
          replace FE : FEnv cenv2 c2 ["cell"] [] ["chr"] := FE
          refine ⟨LwT ts c2 b2 s2 L sl o b cR cN n cD cl H, ts.length, ?_, ?_⟩
          · exact ⟨Nat.zero_le _, rfl, none, rfl⟩
          · rintro i acc H₁ _ ⟨hi, rfl, p, rfl⟩
            by_cases hlt : i < ts.length
            · left
              refine ⟨.int (ts[i] : Nat), hlt, ⟨natVs ts, by walk_at "mem", by simp [hlt]⟩, ?_⟩
              repeat walk_at "s"
              refine ⟨fun _ => ?_, fun h => nomatch h⟩
              refine WP.pin (.str (mkS (tw ts[i]))) ?_ ?_
              · repeat walk_at "s"
                refine c_chr (by decide) (by decide) ?_
                refine op_add_str (by decide +kernel) ?_
                repeat walk_at "s"
                refine op_add_str (by decide +kernel) ?_
                repeat walk_at "s"
                intro gl
                repeat walk_at "s"
                refine op_mod_int (by decide) ?_
                rw [show ((ts[i] : Nat) : Int).fmod 4 = ((ts[i] % 4 : Nat) : Int) from fmod_nat _ 4]
                refine gi_list (v := .str (mkS (tw ts[i]))) (by walk_at "mem") (by lia) ?_ (by decide) ?_
                · rw [Int.toNat_natCast]
                  have hc4 : ts[i] % 4 = 0 ∨ ts[i] % 4 = 1 ∨ ts[i] % 4 = 2 ∨ ts[i] % 4 = 3 := by lia
                  unfold tw
                  rcases hc4 with e | e | e | e <;> rw [e] <;> exact congrArg (fun x => some (V.str x)) (by decide +kernel)
                exact ⟨rfl, .drop (.refl _)⟩
              · refine ⟨by simp; lia, _, by walk_at "upd", hlt, ?_, _, rfl⟩
                rw [List.take_succ_eq_append_getElem hlt]
                simp only [strVs, List.map_append, List.map_cons, List.map_nil]
            · right
              have FE := FE0
              have hi' : i = ts.length := by lia
              subst hi'
              refine ⟨⟨natVs ts, by walk_at "mem", by simp⟩, ?_⟩
              rw [List.take_length]
              repeat walk_at "s"
              refine ⟨_, _, .head, ?_⟩
              refine WP.sub (H' := (L, _) :: (cR, _) :: (cN, _) :: (cD, _) :: (b2, _) :: (b, _) :: H) (.pick (.tail (.tail .head)) (.pick (.tail (.tail .head)) (.pick (.tail (.tail .head)) (.pick (.tail (.tail .head)) (.pick .head (.drop (.pick .head (.refl _)))))))) ?_
              have htb1 : 2 ≤ (ts.map tw).length := by simp; lia
              have htb2 : (ts.map tw).length ≤ 6 := by simp; lia
              have htc : ∀ w ∈ ts.map tw, ∀ c ∈ w, c < 0x110000 := fun w hw => by
                obtain ⟨c, _, rfl⟩ := List.mem_map.mp hw; exact tw_small c
              have htw : ∀ w ∈ ts.map tw, w.length ≤ 100 := fun w hw => by
                obtain ⟨c, _, rfl⟩ := List.mem_map.mp hw; exact tw_len c
              have hto : ∀ w ∈ ts.map tw, wordOk w := fun w hw => by
                obtain ⟨c, _, rfl⟩ := List.mem_map.mp hw; exact tw_ok c
              generalize ts.map tw = tb at htb1 htb2 htc htw hto
              repeat walk_at "s"
              refine gi_list (i := ((7 : Nat) : Int)) (by walk_at "mem") (by decide) (hgc 7 (by decide)) (by simp; lia) ?_
              repeat walk_at "s"
              refine op_mod_int (by decide) ?_
              rw [show ((cl.getD 7 0 : Nat) : Int).fmod 2 = ((cl.getD 7 0 % 2 : Nat) : Int) from fmod_nat _ 2]
              have hsc2 : cl.getD 7 0 % 2 < 2 := Nat.mod_lt _ (by decide)
              have esc : (1 : Int) + ((cl.getD 7 0 % 2 : Nat) : Int) = ((1 + cl.getD 7 0 % 2 : Nat) : Int) := by push_cast; rfl
              repeat walk_at "s"
              rw [esc]
              generalize hsc : 1 + cl.getD 7 0 % 2 = sc
              repeat walk_at "s"
              refine c_len_list (by walk_at "mem") (by simp; lia) ?_
              rw [List.length_map]
              refine op_mul_int (mulOk (k := 10) (l := 10) (by rw [Int.natAbs_natCast]; lia) (by rw [Int.natAbs_natCast]; lia) (by decide)) ?_
              rw [show (sc : Int) * (tb.length : Int) = ((sc * tb.length : Nat) : Int) by push_cast; rfl]
              repeat walk_at "s"
              refine wp1_Assign ?_ (hw := noswap (a := "drawn") FE (.tail _ (.head _)) (by walk_at "mem"))
              repeat walk_at "s"
              refine op_pow_int (by decide) (by decide) ?_
              refine op_floordiv_int (by decide +kernel) (noPy (by decide +kernel)) ?_
              repeat walk_at "s"
              refine op_pow_int (by decide) (by decide) ?_
              refine op_mod_int (by decide +kernel) ?_
              rw [show ((n : Nat) : Int).fdiv ((10 : Int) ^ (24 : Int).toNat) = ((n / 10 ^ 24 : Nat) : Int) from fdiv_nat n (10 ^ 24), show ((n / 10 ^ 24 : Nat) : Int).fmod ((10 : Int) ^ (12 : Int).toNat) = ((n / 10 ^ 24 % 10 ^ 12 : Nat) : Int) from fmod_nat _ (10 ^ 12)]
              have hd : n / 10 ^ 24 % 10 ^ 12 < 10 ^ 12 := Nat.mod_lt _ (by decide)
              generalize n / 10 ^ 24 % 10 ^ 12 = d at hd
              repeat walk_at "s"
              refine gi_list (i := ((9 : Nat) : Int)) (by walk_at "mem") (by decide) (hgc 9 (by decide)) (by simp; lia) ?_
              repeat walk_at "s"
              refine op_mod_int (by decide) ?_
              rw [show ((cl.getD 9 0 : Nat) : Int).fmod 2 = ((cl.getD 9 0 % 2 : Nat) : Int) from fmod_nat _ 2]
              have htr2 : cl.getD 9 0 % 2 < 2 := Nat.mod_lt _ (by decide)
              generalize cl.getD 9 0 % 2 = t2 at htr2
              refine op_mul_int (mulOk (k := 10) (l := 10) (by decide) (by rw [Int.natAbs_natCast]; lia) (by decide)) ?_
              repeat walk_at "s"
              have htr : ((1 : Int) - 2 * (t2 : Int)).natAbs = 1 := by lia
              generalize (1 : Int) - 2 * (t2 : Int) = tr at htr
              refine asg_Tuple hA (wpas_cons ?_)
              repeat walk_at "s"
              refine wpas_cons ?_
              repeat walk_at "s"
              refine wpas_nil ?_
              repeat walk_at "s"
              refine wp_LC (ln' := ["k"]) (gn' := []) (fs := ["drawn"]) (cs := [cD]) FE (by walk_at "cp") (by decide +kernel) (by simp) ?_
              refine wpi_Call ?_
              repeat walk_at "s"
              refine wpm_bitlen ?_
              repeat walk_at "s"
              refine c_bitlen ?_
              repeat walk_at "s"
              refine op_floordiv_int (by decide) (PyProof.noPylong_small (by decide)) ?_
              have end' : ((Builtin.Int.intBits (d : Int) : Nat) : Int) + 3 = ((Builtin.Int.intBits (d : Int) + 3 : Nat) : Int) := by push_cast; rfl
              rw [end', show ((Builtin.Int.intBits (d : Int) + 3 : Nat) : Int).fdiv 4 = ((ndig d 4 : Nat) : Int) from fdiv_nat _ 4]
              have hnd : ndig d 4 ≤ 10 := ndig_le (by decide) (Nat.lt_of_lt_of_le hd (by decide))
              repeat walk_at "s"
              refine ci_range1 hA (by rw [Int.natAbs_natCast]; lia) ?_
              intro b3 c3 cenv3 FE
              replace FE : FEnv cenv3 c3 ["k"] [("drawn", cD)] [] := FE
              have hdl : (digs d 4 (ndig d 4)).length = ndig d 4 := digs_length ..
              refine ⟨LwD d c3 b3 L sl o b b2 sc tb tr cR cN n cD cl H, ndig d 4, ?_, ?_⟩
              · exact ⟨Nat.zero_le _, rfl, none, rfl⟩
              · rintro i acc H₁ _ ⟨hi, rfl, p, rfl⟩
                by_cases hlt : i < ndig d 4
                · left
                  refine ⟨.int i, hlt, range_some (by lia), ?_⟩
                  repeat walk_at "s"
                  refine ⟨fun _ => ?_, fun h => nomatch h⟩
                  repeat walk_at "s"
                  refine op_mul_int (mulOk (k := 10) (l := 10) (by decide) (by rw [Int.natAbs_natCast]; lia) (by decide)) ?_
                  refine op_rshift_int (by lia) ?_
                  have e4 : ((4 : Int) * (i : Int)).toNat = 4 * i := by lia
                  rw [e4, show (d : Int).fdiv (2 ^ (4 * i)) = ((d / 2 ^ (4 * i) : Nat) : Int) by have := shr_nat d (4 * i); rwa [Int.toNat_natCast] at this]
                  repeat walk_at "s"
                  refine op_and_int ?_
                  rw [and15]
                  refine ⟨by simp; lia, _, by walk_at "upd", hlt, ?_, _, rfl⟩
                  have e : (digs d 4 (ndig d 4)).take (i + 1) = (digs d 4 (ndig d 4)).take i ++ [d / 2 ^ (4 * i) % 16] := by
                    rw [List.take_succ_eq_append_getElem (by rw [hdl]; exact hlt)]
                    congr 2
                    simp [digs]
                  rw [e]; simp
                · right
                  have FE := FE0
                  have hi' : i = ndig d 4 := by lia
                  subst hi'
                  refine ⟨range_none (Int.le_refl _), _, _, .head, ?_⟩
                  rw [List.take_of_length_le (by rw [hdl]; exact Nat.le_refl _), digs_hxd]
                  have hxl : (hxd d).length ≤ 10 := hxd_len 10 d (Nat.lt_of_lt_of_le hd (by decide))
                  repeat walk_at "s"
                  refine gs_list (by walk_at "mem") (by decide) (by simp; lia) ?_
                  intro b4
                  rw [show pySlice (natVs (hxd d)) none none (some (-(1 : Int))) = natVs (hxd d).reverse by rw [show (-(1 : Int)) = -1 from rfl, pySlice_rev]; simp]
                  have hf16 : ∀ e ∈ (hxd d).reverse, e < 16 := fun e he => hxd_lt d e (List.mem_reverse.mp he)
                  have hfl : (hxd d).reverse.length ≤ 10 := by rw [List.length_reverse]; exact hxl
                  generalize hfg : (hxd d).reverse = figs at hf16 hfl
                  repeat walk_at "s"
                  refine wpm_join ?_
                  repeat walk_at "s"
                  refine wp_LC (ln' := ["figure"]) (gn' := []) (fs := []) (cs := []) FE (by walk_at "cp") (by decide +kernel) (by simp) ?_
                  refine wpi_value ?_
                  repeat walk_at "s"
                  refine pi_list hA (by walk_at "mem") ?_
                  intro b5 c5 cenv5 FE
                  replace FE : FEnv cenv5 c5 ["figure"] [] [] := FE
                  refine ⟨LwF figs c5 b5 b4 b3 d L sl o b b2 sc tb tr cR cN n cD cl H, figs.length, ?_, ?_⟩
                  · exact ⟨Nat.zero_le _, rfl, none, rfl⟩
                  · rintro i acc H₁ _ ⟨hi, rfl, p, rfl⟩
                    by_cases hlt : i < figs.length
                    · left
                      refine ⟨.int (figs[i] : Nat), hlt, ⟨natVs figs, by walk_at "mem", by simp [hlt]⟩, ?_⟩
                      have hfi := hf16 figs[i] (List.getElem_mem hlt)
                      repeat walk_at "s"
                      refine ⟨fun _ => ?_, fun h => nomatch h⟩
                      repeat walk_at "s"
                      have eabc : ("ABCDEFGHIJKLMNOP" : Str) = mkS [65, 66, 67, 68, 69, 70, 71, 72, 73, 74, 75, 76, 77, 78, 79, 80] := by decide +kernel
                      rw [eabc]
                      refine gi_str (c := 65 + figs[i]) (by lia) (by rw [mkS_len]; decide) ?_ ?_
                      · rw [Int.toNat_natCast]
                        generalize figs[i] = fi at hfi
                        have : ∀ f : Fin 16, (mkS [65, 66, 67, 68, 69, 70, 71, 72, 73, 74, 75, 76, 77, 78, 79, 80]).cps.toList[f.val]? = some (65 + f.val) := by decide +kernel
                        exact this ⟨fi, hfi⟩
                      refine ⟨by simp; lia, _, by walk_at "upd", hlt, ?_, _, rfl⟩
                      rw [List.take_succ_eq_append_getElem hlt]
                      simp only [strVs, letW, List.map_append, List.map_cons, List.map_nil]
                    · right
                      have FE := FE0
                      have hi' : i = figs.length := by lia
                      subst hi'
                      refine ⟨⟨natVs figs, by walk_at "mem", by simp⟩, _, _, .head, ?_⟩
                      rw [List.take_length]
                      repeat walk_at "s"
                      have ej : strVs (letW figs) = ((letW figs).map mkS).map V.str := by simp [strVs]
                      rw [ej]
                      have efl : (letW figs).flatten = lets figs := by
                        have := flat_one (lets figs)
                        rw [lets_W] at this; exact this
                      refine c_join (by walk_at "mem") (by rw [sum_len, empty_len, Nat.mul_zero, efl]; simp; lia) ?_
                      rw [tjoin_mkS, efl]
                      refine Op1.sub (H' := (L, _) :: (cR, _) :: (cN, _) :: (cD, _) :: (b2, _) :: (b, _) :: (b4, _) :: H) (.pick (.tail (.tail (.tail .head))) (.pick (.tail (.tail (.tail .head))) (.pick (.tail (.tail (.tail .head))) (.pick (.tail (.tail (.tail .head))) (.pick (.tail (.tail (.tail .head))) (.pick (.tail (.tail (.tail .head))) (.drop (.pick .head (.drop (.refl _)))))))))) ?_
                      refine store_local FE (by walk_at "upd") (by walk_at "put") ?_
                      refine wps_next ?_
                      have hT' : Tabs a ((cN, AO.cell (some (.int n))) :: (cD, AO.cell (some (.int d))) :: (b2, AO.list (strVs tb)) :: (b, AO.list (natVs cl)) :: (b4, AO.list (natVs figs)) :: H) := ⟨by walk_at "mem", by walk_at "mem", by walk_at "mem"⟩
                      exact part9 W (hr'.mono (by decide)) FE (by walk_at "mem") (by walk_at "mem") (by walk_at "mem") (by walk_at "mem") (by walk_at "mem") hcl12 hT' hn hd (by lia) (by lia) htb1 htb2 htc htw hto hfg.symm htr
end
end
noncomputable section
/-- a function of the written heap -/
noncomputable def fnTup (K : Frag) (fa : Addr) : Option (Str × Arguments × FuncBody × Scope × List (Str × Addr) × Addr × Addr × Value × Value × Value) := match K.lookup fa with
  | some ⟨_, _, .func fd, _⟩ => some (fd.qualname, fd.params, fd.body, fd.scope, fd.closure, fd.globals, fd.builtins, fd.defaults, fd.kwdefaults, fd.code)
  | _ => none
noncomputable def codeQ (K : Frag) (c : Addr) : Option Str := match K.lookup c with
  | some ⟨_, _, .fields vs, _⟩ => (match (vs[1]? : Option Value) with | some (.str q _) => some q | _ => none)
  | _ => none
noncomputable def codeAt (K : Frag) (fa : Addr) : Addr := match K.lookup fa with
  | some ⟨_, _, .func fd, _⟩ => (match fd.code with | .ref c => c | _ => 0)
  | _ => 0
theorem fnAt_of_K {K : Frag} {h : Heap} {fa c : Addr} {F : FnA} (X : K.In h) (e : fnTup K fa = some (F.qual, F.params, F.body, F.scope, F.closure, mainGlobals, builtinsNs, .none, .none, .ref c)) (e2 : codeQ K c = some F.qual) : FnAt h fa F (.ref c) := by
  unfold fnTup at e
  split at e
  · rename_i cls di fd sl q
    simp only [Option.some.injEq, Prod.mk.injEq] at e
    obtain ⟨r1, r2, r3, r4, r5, r6, r7, r8, r9, r10⟩ := e
    unfold codeQ at e2
    split at e2
    · rename_i cls' di' vs sl' q'
      split at e2
      · rename_i qn t hv
        cases e2
        exact ⟨_, fd, X _ _ q, rfl, r1, r2, r3, r4, r5, r6, r7, r8, r9, r10, ⟨c, _, vs, t, rfl, X _ _ q', rfl, hv⟩⟩
      · cases e2
    · cases e2
  · cases e
section
variable {K : Frag} {B : Heap} {mg mb : Str → Option Value} {n : Str} {Xs : List Addr}
theorem gl_fn {a : Addr} (X : K.In B) (G : B.Ns mainGlobals mg) (e : nsIn K mainGlobals n = some (some (.ref a))) : ∃ v, VRel Xs B (.ref a) v ∧ (mg n = some v ∨ (mg n = none ∧ mb n = some v)) := ⟨.ref a, by simp only [VRel], .inl (mg_of X G e)⟩
noncomputable def intIn (K : Frag) (n : Str) : Option Int := match nsIn K mainGlobals n with | some (some (.int i _)) => some i | _ => none
theorem gl_int {i : Int} (X : K.In B) (G : B.Ns mainGlobals mg) (e : intIn K n = some i) : ∃ v, VRel Xs B (.int i) v ∧ (mg n = some v ∨ (mg n = none ∧ mb n = some v)) := by
  unfold intIn at e
  split at e
  · rename_i j t q
    cases e
    exact ⟨.int i t, by simp only [VRel]; exact ⟨t, rfl⟩, .inl (mg_of X G q)⟩
  · cases e
theorem gl_ty {s : String} (X : K.In B) (G : B.Ns mainGlobals mg) (hb : ∀ x : Str, x ≠ "__name__" → mb x = bootBuiltins x) (e : nsIn K mainGlobals n = some none) (hv : bootBuiltins n = some (.type s)) (hn : n ≠ "__name__") : ∃ v, VRel Xs B (.ty s) v ∧ (mg n = some v ∨ (mg n = none ∧ mb n = some v)) :=
  ⟨.type s, by simp only [VRel], .inr ⟨mg_none_of X G e, (hb n hn).trans hv⟩⟩
theorem gl_bi {s : String} (X : K.In B) (G : B.Ns mainGlobals mg) (hb : ∀ x : Str, x ≠ "__name__" → mb x = bootBuiltins x) (e : nsIn K mainGlobals n = some none) (hv : bootBuiltins n = some (.builtin s)) (hn : n ≠ "__name__") : ∃ v, VRel Xs B (.bi s) v ∧ (mg n = some v ∨ (mg n = none ∧ mb n = some v)) :=
  ⟨.builtin s, by simp only [VRel], .inr ⟨mg_none_of X G e, (hb n hn).trans hv⟩⟩
end
end
noncomputable section
/-- what the written heap says -/
structure KOk3 (K : Frag) (a : Ad) (aL : Addr) : Prop where
  b_int : nsIn K mainGlobals "int" = some none
  b_abs : nsIn K mainGlobals "abs" = some none
  b_divmod : nsIn K mainGlobals "divmod" = some none
  b_len : nsIn K mainGlobals "len" = some none
  b_reversed : nsIn K mainGlobals "reversed" = some none
  b_range : nsIn K mainGlobals "range" = some none
  b_zip : nsIn K mainGlobals "zip" = some none
  b_enumerate : nsIn K mainGlobals "enumerate" = some none
  b_list : nsIn K mainGlobals "list" = some none
  b_chr : nsIn K mainGlobals "chr" = some none
  b_ord : nsIn K mainGlobals "ord" = some none
  b_iter : nsIn K mainGlobals "iter" = some none
  i_div : intIn K "_DIV_LIMIT" = some 4000
  g_ap : nsIn K mainGlobals "Int2AP" = some (some (.ref a.ap))
  g_div2 : nsIn K mainGlobals "_div2n1n" = some (some (.ref a.div2))
  g_i2d : nsIn K mainGlobals "_int2digits" = some (some (.ref a.i2d))
  g_d2i : nsIn K mainGlobals "_digits2int" = some (some (.ref a.d2i))
  g_dmp : nsIn K mainGlobals "_divmod_pos" = some (some (.ref a.dmp))
  g_idm : nsIn K mainGlobals "int_divmod" = some (some (.ref a.idm))
  g_cls : nsIn K mainGlobals "_netrclex" = some (some (.ref a.cls))
  g_reader : nsIn K mainGlobals "_law_reader" = some (some (.ref a.reader))
  g_line : nsIn K mainGlobals "_law_line" = some (some (.ref a.line))
  g_word : nsIn K mainGlobals "_law_word" = some (some (.ref a.word))
  g_text : nsIn K mainGlobals "_law_text" = some (some (.ref a.text))
  g_taken : nsIn K mainGlobals "_law_taken" = some (some (.ref a.taken))
  g_out : nsIn K mainGlobals "_law_out" = some (some (.ref a.out))
  g_lin : nsIn K mainGlobals "_law_in" = some (some (.ref a.lin))
  g_counted : nsIn K mainGlobals "_law_counted" = some (some (.ref a.counted))
  t_ap : fnTup K a.ap = some (F_Int2AP.qual, F_Int2AP.params, F_Int2AP.body, F_Int2AP.scope, F_Int2AP.closure, mainGlobals, builtinsNs, .none, .none, .ref (codeAt K a.ap))
  q_ap : codeQ K (codeAt K a.ap) = some F_Int2AP.qual
  t_div2 : fnTup K a.div2 = some (F_div2n1n.qual, F_div2n1n.params, F_div2n1n.body, F_div2n1n.scope, F_div2n1n.closure, mainGlobals, builtinsNs, .none, .none, .ref (codeAt K a.div2))
  q_div2 : codeQ K (codeAt K a.div2) = some F_div2n1n.qual
  t_i2d : fnTup K a.i2d = some (F_int2digits.qual, F_int2digits.params, F_int2digits.body, F_int2digits.scope, F_int2digits.closure, mainGlobals, builtinsNs, .none, .none, .ref (codeAt K a.i2d))
  q_i2d : codeQ K (codeAt K a.i2d) = some F_int2digits.qual
  t_d2i : fnTup K a.d2i = some (F_digits2int.qual, F_digits2int.params, F_digits2int.body, F_digits2int.scope, F_digits2int.closure, mainGlobals, builtinsNs, .none, .none, .ref (codeAt K a.d2i))
  q_d2i : codeQ K (codeAt K a.d2i) = some F_digits2int.qual
  t_dmp : fnTup K a.dmp = some (F_divmod_pos.qual, F_divmod_pos.params, F_divmod_pos.body, F_divmod_pos.scope, F_divmod_pos.closure, mainGlobals, builtinsNs, .none, .none, .ref (codeAt K a.dmp))
  q_dmp : codeQ K (codeAt K a.dmp) = some F_divmod_pos.qual
  t_idm : fnTup K a.idm = some (F_int_divmod.qual, F_int_divmod.params, F_int_divmod.body, F_int_divmod.scope, F_int_divmod.closure, mainGlobals, builtinsNs, .none, .none, .ref (codeAt K a.idm))
  q_idm : codeQ K (codeAt K a.idm) = some F_int_divmod.qual
  t_reader : fnTup K a.reader = some (F_reader.qual, F_reader.params, F_reader.body, F_reader.scope, F_reader.closure, mainGlobals, builtinsNs, .none, .none, .ref (codeAt K a.reader))
  q_reader : codeQ K (codeAt K a.reader) = some F_reader.qual
  t_line : fnTup K a.line = some (F_line.qual, F_line.params, F_line.body, F_line.scope, F_line.closure, mainGlobals, builtinsNs, .none, .none, .ref (codeAt K a.line))
  q_line : codeQ K (codeAt K a.line) = some F_line.qual
  t_word : fnTup K a.word = some (F_word.qual, F_word.params, F_word.body, F_word.scope, F_word.closure, mainGlobals, builtinsNs, .none, .none, .ref (codeAt K a.word))
  q_word : codeQ K (codeAt K a.word) = some F_word.qual
  t_text : fnTup K a.text = some (F_text.qual, F_text.params, F_text.body, F_text.scope, F_text.closure, mainGlobals, builtinsNs, .none, .none, .ref (codeAt K a.text))
  q_text : codeQ K (codeAt K a.text) = some F_text.qual
  t_taken : fnTup K a.taken = some (F_taken.qual, F_taken.params, F_taken.body, F_taken.scope, F_taken.closure, mainGlobals, builtinsNs, .none, .none, .ref (codeAt K a.taken))
  q_taken : codeQ K (codeAt K a.taken) = some F_taken.qual
  t_out : fnTup K a.out = some (F_out.qual, F_out.params, F_out.body, F_out.scope, F_out.closure, mainGlobals, builtinsNs, .none, .none, .ref (codeAt K a.out))
  q_out : codeQ K (codeAt K a.out) = some F_out.qual
  t_lin : fnTup K a.lin = some (F_lin.qual, F_lin.params, F_lin.body, F_lin.scope, F_lin.closure, mainGlobals, builtinsNs, .none, .none, .ref (codeAt K a.lin))
  q_lin : codeQ K (codeAt K a.lin) = some F_lin.qual
  t_counted : fnTup K a.counted = some (F_counted.qual, F_counted.params, F_counted.body, F_counted.scope, F_counted.closure, mainGlobals, builtinsNs, .none, .none, .ref (codeAt K a.counted))
  q_counted : codeQ K (codeAt K a.counted) = some F_counted.qual
  t_fInit : fnTup K a.fInit = some (F_init.qual, F_init.params, F_init.body, F_init.scope, F_init.closure, mainGlobals, builtinsNs, .none, .none, .ref (codeAt K a.fInit))
  q_fInit : codeQ K (codeAt K a.fInit) = some F_init.qual
  t_fRead : fnTup K a.fRead = some (F_read.qual, F_read.params, F_read.body, F_read.scope, F_read.closure, mainGlobals, builtinsNs, .none, .none, .ref (codeAt K a.fRead))
  q_fRead : codeQ K (codeAt K a.fRead) = some F_read.qual
  t_fGet : fnTup K a.fGet = some (F_get.qual, F_get.params, F_get.body, F_get.scope, F_get.closure, mainGlobals, builtinsNs, .none, .none, .ref (codeAt K a.fGet))
  q_fGet : codeQ K (codeAt K a.fGet) = some F_get.qual
  t_fPush : fnTup K a.fPush = some (F_push.qual, F_push.params, F_push.body, F_push.scope, F_push.closure, mainGlobals, builtinsNs, .none, .none, .ref (codeAt K a.fPush))
  q_fPush : codeQ K (codeAt K a.fPush) = some F_push.qual
  g_law : nsIn K mainGlobals "law" = some (some (.ref aL))
  t_law : fnTup K aL = some (F_law.qual, F_law.params, F_law.body, F_law.scope, F_law.closure, mainGlobals, builtinsNs, .none, .none, .ref (codeAt K aL))
  q_law : codeQ K (codeAt K aL) = some F_law.qual
  cls : Cls3 K a
theorem W3.of_K {K : Frag} {a : Ad} {aL : Addr} {B : Heap} {p prog : Program} {loose : List Str} {mean : ExcName → Option Value} {mg mb : Str → Option Value} {w : World} {os : OsState} (k : KOk3 K a aL) (X : K.In B) (T : Top p loose mean mg mb B)
    (h1 : CodeHd B (codeAt K a.i2d) a.pI2d) (h2 : CodeHd B (codeAt K a.d2i) a.pD2i) (h3 : CodeHd B (codeAt K a.reader) a.pReader) : W3 ⟨prog, w, K, B, os, [], mg, mb⟩ a where
  G := {
    kin := X
    g := T.g
    b := T.b
    nolimit := T.nolimit
    bmain := T.bmain
    gl := List.forall_mem_cons.mpr ⟨gl_ty (n := "int") X T.g T.builtins k.b_int (by decide +kernel) (by decide +kernel), List.forall_mem_cons.mpr ⟨gl_bi (n := "abs") X T.g T.builtins k.b_abs (by decide +kernel) (by decide +kernel), List.forall_mem_cons.mpr ⟨gl_bi (n := "divmod") X T.g T.builtins k.b_divmod (by decide +kernel) (by decide +kernel), List.forall_mem_cons.mpr ⟨gl_bi (n := "len") X T.g T.builtins k.b_len (by decide +kernel) (by decide +kernel), List.forall_mem_cons.mpr ⟨gl_ty (n := "reversed") X T.g T.builtins k.b_reversed (by decide +kernel) (by decide +kernel), List.forall_mem_cons.mpr ⟨gl_ty (n := "range") X T.g T.builtins k.b_range (by decide +kernel) (by decide +kernel), List.forall_mem_cons.mpr ⟨gl_ty (n := "zip") X T.g T.builtins k.b_zip (by decide +kernel) (by decide +kernel), List.forall_mem_cons.mpr ⟨gl_ty (n := "enumerate") X T.g T.builtins k.b_enumerate (by decide +kernel) (by decide +kernel), List.forall_mem_cons.mpr ⟨gl_ty (n := "list") X T.g T.builtins k.b_list (by decide +kernel) (by decide +kernel), List.forall_mem_cons.mpr ⟨gl_bi (n := "chr") X T.g T.builtins k.b_chr (by decide +kernel) (by decide +kernel), List.forall_mem_cons.mpr ⟨gl_bi (n := "ord") X T.g T.builtins k.b_ord (by decide +kernel) (by decide +kernel), List.forall_mem_cons.mpr ⟨gl_bi (n := "iter") X T.g T.builtins k.b_iter (by decide +kernel) (by decide +kernel), List.forall_mem_cons.mpr ⟨gl_int X T.g k.i_div, List.forall_mem_cons.mpr ⟨gl_fn X T.g k.g_ap, List.forall_mem_cons.mpr ⟨gl_fn X T.g k.g_div2, List.forall_mem_cons.mpr ⟨gl_fn X T.g k.g_i2d, List.forall_mem_cons.mpr ⟨gl_fn X T.g k.g_d2i, List.forall_mem_cons.mpr ⟨gl_fn X T.g k.g_dmp, List.forall_mem_cons.mpr ⟨gl_fn X T.g k.g_idm, List.forall_mem_cons.mpr ⟨gl_fn X T.g k.g_cls, List.forall_mem_cons.mpr ⟨gl_fn X T.g k.g_reader, List.forall_mem_cons.mpr ⟨gl_fn X T.g k.g_line, List.forall_mem_cons.mpr ⟨gl_fn X T.g k.g_word, List.forall_mem_cons.mpr ⟨gl_fn X T.g k.g_text, List.forall_mem_cons.mpr ⟨gl_fn X T.g k.g_taken, List.forall_mem_cons.mpr ⟨gl_fn X T.g k.g_out, List.forall_mem_cons.mpr ⟨gl_fn X T.g k.g_lin, List.forall_mem_cons.mpr ⟨gl_fn X T.g k.g_counted, (fun p hp => by cases hp)⟩⟩⟩⟩⟩⟩⟩⟩⟩⟩⟩⟩⟩⟩⟩⟩⟩⟩⟩⟩⟩⟩⟩⟩⟩⟩⟩⟩ }
  cls := k.cls
  ap := ⟨_, fnAt_of_K X k.t_ap k.q_ap⟩
  div2 := ⟨_, fnAt_of_K X k.t_div2 k.q_div2⟩
  i2d := ⟨_, fnAt_of_K X k.t_i2d k.q_i2d, h1⟩
  d2i := ⟨_, fnAt_of_K X k.t_d2i k.q_d2i, h2⟩
  dmp := ⟨_, fnAt_of_K X k.t_dmp k.q_dmp⟩
  idm := ⟨_, fnAt_of_K X k.t_idm k.q_idm⟩
  reader := ⟨_, fnAt_of_K X k.t_reader k.q_reader, h3⟩
  line := ⟨_, fnAt_of_K X k.t_line k.q_line⟩
  word := ⟨_, fnAt_of_K X k.t_word k.q_word⟩
  text := ⟨_, fnAt_of_K X k.t_text k.q_text⟩
  taken := ⟨_, fnAt_of_K X k.t_taken k.q_taken⟩
  out := ⟨_, fnAt_of_K X k.t_out k.q_out⟩
  lin := ⟨_, fnAt_of_K X k.t_lin k.q_lin⟩
  counted := ⟨_, fnAt_of_K X k.t_counted k.q_counted⟩
  fInit := ⟨_, fnAt_of_K X k.t_fInit k.q_fInit⟩
  fRead := ⟨_, fnAt_of_K X k.t_fRead k.q_fRead⟩
  fGet := ⟨_, fnAt_of_K X k.t_fGet k.q_fGet⟩
  fPush := ⟨_, fnAt_of_K X k.t_fPush k.q_fPush⟩
/-- the law's call, from the head's own words -/
theorem law3_code {K : Frag} {a : Ad} {aL fa sl : Addr} {p prog : Program} {loose : List Str} {mean : ExcName → Option Value} {mg mb : Str → Option Value} {w : World} {s₁ : Shared} {its : Array Value} {ns : List Int} {tabs : List (Addr × Addr)} {A : Around}
    (k : KOk3 K a aL) (hT : TabsAt tabs s₁.heap) (KX : K.In s₁.heap) (hn : noTabs K = true) (T : Top p loose mean mg mb s₁.heap) (hg : s₁.gens = #[]) (hmg : mg "law" = some (.ref fa)) (hsl : s₁.heap.IsList sl its) (hns : IntsAre its.toList ns) (hnz : ns.length ≤ 1000) (hr : Room A 27)
    (m1 : (codeAt K a.i2d, a.pI2d) ∈ tabs) (m2 : (codeAt K a.d2i, a.pD2i) ∈ tabs) (m3 : (codeAt K a.reader, a.pReader) ∈ tabs) (nd : a.pI2d ≠ a.pD2i ∧ a.pI2d ≠ a.pReader ∧ a.pD2i ≠ a.pReader) :
    codeAny (model prog w) A (Code.call (Value.ref fa) ⟨[Value.ref sl], []⟩) (fun r s' => r = .ok (.ret (.bool true)) ∧ (∀ b o, (ghostOf s₁.heap tabs).get? b = some o → s'.heap.get? b = some o) ∧ s'.os = s₁.os ∧ s'.gens = #[] ∧ GrownAt a.pI2d s'.heap ∧ GrownAt a.pD2i s'.heap ∧ GrownAt a.pReader s'.heap) s₁ := by
  have X' := ghost_K hT KX hn
  have T' := ghost_top hT T
  have hd : ∀ q ∈ tabs, CodeHd (ghostOf s₁.heap tabs) q.1 q.2 := by
    have C' := ghost_code hT
    have : ∀ (l : List (Addr × Addr)), CodeAll l (ghostOf s₁.heap tabs) → ∀ q ∈ l, CodeHd (ghostOf s₁.heap tabs) q.1 q.2 := by
      intro l
      induction l with
      | nil => intro _ q hq; cases hq
      | cons x l ih =>
        intro h q hq
        rcases List.mem_cons.mp hq with rfl | hq
        · exact h.1
        · exact ih h.2 q hq
    exact this tabs C'
  have W : W3 ⟨prog, w, K, ghostOf s₁.heap tabs, s₁.os, [], mg, mb⟩ a := W3.of_K k X' T' (hd _ m1) (hd _ m2) (hd _ m3)
  have hfa : fa = aL := by
    have := mg_of KX T.g k.g_law
    rw [hmg] at this
    cases this; rfl
  subst hfa
  have hF := fnAt_of_K X' k.t_law k.q_law
  have tabAt : ∀ q ∈ tabs, s₁.heap.get? q.2 = some (tabObj #[]) ∧ (ghostOf s₁.heap tabs).get? q.2 = none := fun q hq => ⟨(hT q hq).2, hideAll_none _ (List.mem_map_of_mem hq)⟩
  have tabRel : ∀ (P : Addr) (qn : Str), s₁.heap.get? P = some (tabObj #[]) → ORel [] s₁.heap P (.tab qn) := fun P qn e => ⟨#[], e, trivial, fun pos c h => by cases h⟩
  have R : Rel ⟨prog, w, K, ghostOf s₁.heap tabs, s₁.os, [], mg, mb⟩ [(a.pReader, .tab "_law_reader.<locals>.<lambda>"), (a.pI2d, .tab "_int2digits.<locals>.inner"), (a.pD2i, .tab "_digits2int.<locals>.inner")] s₁ := {
    keep := fun b o e => of_hideAll _ e
    gens := hg
    os := rfl
    nd := by
      simp only [keys, List.map_cons, List.map_nil, List.nodup_cons, List.mem_cons, List.not_mem_nil, or_false, not_or, not_false_eq_true, List.nodup_nil, and_true]
      exact ⟨⟨fun e => nd.2.1 e.symm, fun e => nd.2.2 e.symm⟩, nd.1⟩
    fresh := by
      intro q hq
      simp only [List.mem_cons, List.not_mem_nil, or_false] at hq
      rcases hq with rfl | rfl | rfl
      · exact (tabAt _ m3).2
      · exact (tabAt _ m1).2
      · exact (tabAt _ m2).2
    objs := by
      intro q hq
      simp only [List.mem_cons, List.not_mem_nil, or_false] at hq
      rcases hq with rfl | rfl | rfl
      · exact tabRel _ _ (tabAt _ m3).1
      · exact tabRel _ _ (tabAt _ m1).1
      · exact tabRel _ _ (tabAt _ m2).1
    xl := fun a ha => by cases ha }
  have hc := sp_law (A := A) (H := [(a.pReader, .tab "_law_reader.<locals>.<lambda>"), (a.pI2d, .tab "_int2digits.<locals>.inner"), (a.pD2i, .tab "_digits2int.<locals>.inner")]) W hr hF (ghost_list hT hsl) hns hnz ⟨.head _, .tail _ (.head _), .tail _ (.tail _ (.head _))⟩
  refine codeAny_mono (hc [.ref sl] s₁ (VsRel.cons (by simp only [VRel]) VsRel.nil) R) ?_
  rintro r s' hr'
  rcases r with e | (_ | _ | _ | v)
  · exact hr'.elim
  · exact hr'.elim
  · exact hr'.elim
  · exact hr'.elim
  · obtain ⟨x, H', ⟨rfl, Tb⟩, rv, R', _⟩ := hr'
    simp only [VRel] at rv
    subst rv
    have grown : ∀ (P : Addr) (qn : Str), (P, AO.tab qn) ∈ H' → GrownAt P s'.heap := fun P qn hm => by
      obtain ⟨ps, e, _⟩ := R'.objs _ hm
      exact ⟨ps, e⟩
    exact ⟨rfl, R'.keep, R'.os, R'.gens, grown _ _ Tb.i, grown _ _ Tb.d, grown _ _ Tb.r⟩
end
noncomputable section
/-- the written part of a heap at some addresses -/
noncomputable def fragAt (h : Heap) (as : List Addr) : Frag := as.filterMap fun a => (h.get? a).map fun o => (a, o)
theorem fragAt_in (h : Heap) (as : List Addr) : (fragAt h as).In h := fun a o e => by
  have hm := mem_of_lookupK e
  unfold fragAt at hm
  obtain ⟨b, _, hb⟩ := List.mem_filterMap.mp hm
  cases ho : h.get? b with
  | none => rw [ho] at hb; cases hb
  | some o' =>
    rw [ho] at hb
    cases hb
    exact ho
/-- a hook that looks at the heap at the top's end, by a function of one's own -/
noncomputable def tHook (as ts : List Addr) {β : Type} (chk : Frag → β) (ok : β) : Hook where
  α := β × List (Option Obj)
  obs := fun s => (chk (fragAt s.heap as), ts.map s.heap.get?)
  val := fun _ => (ok, ts.map fun _ => some (tabObj #[]))
  says := fun _ h => (∃ K : Frag, K.In h ∧ chk K = ok) ∧ ∀ P ∈ ts, h.get? P = some (tabObj #[])
  of := fun w s x => ⟨⟨fragAt s.heap as, fragAt_in s.heap as, (Prod.mk.inj x).1⟩, List.map_inj_left.mp (Prod.mk.inj x).2⟩
  keeps := fun w h h' x k => ⟨let ⟨K, a, b⟩ := x.1; ⟨K, a.keeps k, b⟩, fun P hP => k _ _ (x.2 P hP)⟩
theorem nth_of {α : Type} {l m : List α} (e : l = m) (i : Nat) : l[i]? = m[i]? := by rw [e]
end
noncomputable section
noncomputable def ad3 : Ad := { ap := 21, div2 := 28, i2d := 42, d2i := 49, dmp := 56, idm := 63, cls := 101, fInit := 77, fRead := 84, fGet := 91, fPush := 98, reader := 112, line := 119, word := 124, text := 129, taken := 136, out := 143, lin := 148, counted := 153, pI2d := 37, pD2i := 44, pReader := 107 }
noncomputable abbrev FnT := Option (Str × Arguments × FuncBody × Scope × List (Str × Addr) × Addr × Addr × Value × Value × Value)
noncomputable abbrev Look3 := List FnT × List Addr × List (Option Str) × List (Option (Option Value)) × List (Option Value) × List Bool × Option Int × Option Bool
noncomputable def chk3 (K : Frag) : Look3 := ([fnTup K 21, fnTup K 28, fnTup K 42, fnTup K 49, fnTup K 56, fnTup K 63, fnTup K 112, fnTup K 119, fnTup K 124, fnTup K 129, fnTup K 136, fnTup K 143, fnTup K 148, fnTup K 153, fnTup K 77, fnTup K 84, fnTup K 91, fnTup K 98, fnTup K 158], [codeAt K 21, codeAt K 28, codeAt K 42, codeAt K 49, codeAt K 56, codeAt K 63, codeAt K 112, codeAt K 119, codeAt K 124, codeAt K 129, codeAt K 136, codeAt K 143, codeAt K 148, codeAt K 153, codeAt K 77, codeAt K 84, codeAt K 91, codeAt K 98, codeAt K 158], [codeQ K 20, codeQ K 27, codeQ K 41, codeQ K 48, codeQ K 55, codeQ K 62, codeQ K 111, codeQ K 118, codeQ K 123, codeQ K 128, codeQ K 135, codeQ K 142, codeQ K 147, codeQ K 152, codeQ K 76, codeQ K 83, codeQ K 90, codeQ K 97, codeQ K 157], [nsIn K mainGlobals "int", nsIn K mainGlobals "abs", nsIn K mainGlobals "divmod", nsIn K mainGlobals "len", nsIn K mainGlobals "reversed", nsIn K mainGlobals "range", nsIn K mainGlobals "zip", nsIn K mainGlobals "enumerate", nsIn K mainGlobals "list", nsIn K mainGlobals "chr", nsIn K mainGlobals "ord", nsIn K mainGlobals "iter", nsIn K mainGlobals "Int2AP", nsIn K mainGlobals "_div2n1n", nsIn K mainGlobals "_int2digits", nsIn K mainGlobals "_digits2int", nsIn K mainGlobals "_divmod_pos", nsIn K mainGlobals "int_divmod", nsIn K mainGlobals "_netrclex", nsIn K mainGlobals "_law_reader", nsIn K mainGlobals "_law_line", nsIn K mainGlobals "_law_word", nsIn K mainGlobals "_law_text", nsIn K mainGlobals "_law_taken", nsIn K mainGlobals "_law_out", nsIn K mainGlobals "_law_in", nsIn K mainGlobals "_law_counted", nsIn K mainGlobals "law", findIn K (.ref 101) "__setattr__", findIn K (.ref 101) "__init__", findIn K (.ref 101) "_read_char", specialIn K (.ref 84) "__get__", findIn K (.ref 101) "get_token", findIn K (.ref 101) "push_token", findIn K (.ref 101) "lineno", takerIn K 101 "lineno", findIn K (.ref 101) "instream", takerIn K 101 "instream", findIn K (.ref 101) "whitespace", takerIn K 101 "whitespace", findIn K (.ref 101) "pushback", takerIn K 101 "pushback"], [typeIn K (.ref 77)], [isFn K (.ref 84), isFn K (.ref 91), isFn K (.ref 98), plainGet K 101 "", hasDictIn K 101, plainOver K 101, makesIn K 101, keepIn K (.ref 101), noTabs K, codeHdIn K 48 44, codeHdIn K 111 107, codeHdIn K 41 37], intIn K "_DIV_LIMIT", takesIn K (.ref 84))
noncomputable def ok3 : Look3 := ([some (F_Int2AP.qual, F_Int2AP.params, F_Int2AP.body, F_Int2AP.scope, F_Int2AP.closure, mainGlobals, builtinsNs, .none, .none, .ref 20), some (F_div2n1n.qual, F_div2n1n.params, F_div2n1n.body, F_div2n1n.scope, F_div2n1n.closure, mainGlobals, builtinsNs, .none, .none, .ref 27), some (F_int2digits.qual, F_int2digits.params, F_int2digits.body, F_int2digits.scope, F_int2digits.closure, mainGlobals, builtinsNs, .none, .none, .ref 41), some (F_digits2int.qual, F_digits2int.params, F_digits2int.body, F_digits2int.scope, F_digits2int.closure, mainGlobals, builtinsNs, .none, .none, .ref 48), some (F_divmod_pos.qual, F_divmod_pos.params, F_divmod_pos.body, F_divmod_pos.scope, F_divmod_pos.closure, mainGlobals, builtinsNs, .none, .none, .ref 55), some (F_int_divmod.qual, F_int_divmod.params, F_int_divmod.body, F_int_divmod.scope, F_int_divmod.closure, mainGlobals, builtinsNs, .none, .none, .ref 62), some (F_reader.qual, F_reader.params, F_reader.body, F_reader.scope, F_reader.closure, mainGlobals, builtinsNs, .none, .none, .ref 111), some (F_line.qual, F_line.params, F_line.body, F_line.scope, F_line.closure, mainGlobals, builtinsNs, .none, .none, .ref 118), some (F_word.qual, F_word.params, F_word.body, F_word.scope, F_word.closure, mainGlobals, builtinsNs, .none, .none, .ref 123), some (F_text.qual, F_text.params, F_text.body, F_text.scope, F_text.closure, mainGlobals, builtinsNs, .none, .none, .ref 128), some (F_taken.qual, F_taken.params, F_taken.body, F_taken.scope, F_taken.closure, mainGlobals, builtinsNs, .none, .none, .ref 135), some (F_out.qual, F_out.params, F_out.body, F_out.scope, F_out.closure, mainGlobals, builtinsNs, .none, .none, .ref 142), some (F_lin.qual, F_lin.params, F_lin.body, F_lin.scope, F_lin.closure, mainGlobals, builtinsNs, .none, .none, .ref 147), some (F_counted.qual, F_counted.params, F_counted.body, F_counted.scope, F_counted.closure, mainGlobals, builtinsNs, .none, .none, .ref 152), some (F_init.qual, F_init.params, F_init.body, F_init.scope, F_init.closure, mainGlobals, builtinsNs, .none, .none, .ref 76), some (F_read.qual, F_read.params, F_read.body, F_read.scope, F_read.closure, mainGlobals, builtinsNs, .none, .none, .ref 83), some (F_get.qual, F_get.params, F_get.body, F_get.scope, F_get.closure, mainGlobals, builtinsNs, .none, .none, .ref 90), some (F_push.qual, F_push.params, F_push.body, F_push.scope, F_push.closure, mainGlobals, builtinsNs, .none, .none, .ref 97), some (F_law.qual, F_law.params, F_law.body, F_law.scope, F_law.closure, mainGlobals, builtinsNs, .none, .none, .ref 157)], [20, 27, 41, 48, 55, 62, 111, 118, 123, 128, 135, 142, 147, 152, 76, 83, 90, 97, 157], [some F_Int2AP.qual, some F_div2n1n.qual, some F_int2digits.qual, some F_digits2int.qual, some F_divmod_pos.qual, some F_int_divmod.qual, some F_reader.qual, some F_line.qual, some F_word.qual, some F_text.qual, some F_taken.qual, some F_out.qual, some F_lin.qual, some F_counted.qual, some F_init.qual, some F_read.qual, some F_get.qual, some F_push.qual, some F_law.qual], [some none, some none, some none, some none, some none, some none, some none, some none, some none, some none, some none, some none, some (some (.ref 21)), some (some (.ref 28)), some (some (.ref 42)), some (some (.ref 49)), some (some (.ref 56)), some (some (.ref 63)), some (some (.ref 101)), some (some (.ref 112)), some (some (.ref 119)), some (some (.ref 124)), some (some (.ref 129)), some (some (.ref 136)), some (some (.ref 143)), some (some (.ref 148)), some (some (.ref 153)), some (some (.ref 158)), some (some (.builtin "object.__setattr__")), some (some (.ref 77)), some (some (.ref 84)), some (some (.builtin "function.__get__")), some (some (.ref 91)), some (some (.ref 98)), some none, some none, some none, some none, some none, some none, some none, some none], [some (.type "function")], [true, true, true, true, true, true, true, true, true, true, true, true], some 4000, some false)
noncomputable abbrev hook3 : Hook := tHook [2, 3, 15, 17, 18, 20, 21, 22, 24, 25, 27, 28, 29, 31, 32, 34, 35, 36, 38, 39, 41, 42, 43, 45, 46, 48, 49, 50, 52, 53, 55, 56, 57, 59, 60, 62, 63, 71, 73, 74, 76, 77, 78, 80, 81, 83, 84, 85, 87, 88, 90, 91, 92, 94, 95, 97, 98, 99, 100, 101, 102, 103, 106, 108, 109, 111, 112, 113, 115, 116, 118, 119, 120, 123, 124, 125, 128, 129, 130, 132, 133, 135, 136, 137, 139, 140, 142, 143, 144, 147, 148, 149, 152, 153, 154, 157, 158] [44, 107, 37] chk3 ok3
theorem lookT {K : Frag} {fa c : Addr} {q : Str} {p : Arguments} {b : FuncBody} {s : Scope} {cl : List (Str × Addr)} {g n : Addr} {d k : Value} (e : fnTup K fa = some (q, p, b, s, cl, g, n, d, k, .ref c)) (h : codeAt K fa = c) : fnTup K fa = some (q, p, b, s, cl, g, n, d, k, .ref (codeAt K fa)) := h.symm ▸ e
theorem lookQ {K : Frag} {fa c : Addr} {q : Str} (e : codeQ K c = some q) (h : codeAt K fa = c) : codeQ K (codeAt K fa) = some q := h.symm ▸ e
theorem kok3 {K : Frag} (e : chk3 K = ok3) : KOk3 K ad3 158 ∧ noTabs K = true ∧ codeHdIn K 48 44 = true ∧ codeHdIn K 111 107 = true ∧ codeHdIn K 41 37 = true := by
  have e1 := congrArg (·.1) e
  have e2 := congrArg (·.2.1) e
  have e3 := congrArg (·.2.2.1) e
  have e4 := congrArg (·.2.2.2.1) e
  have e5 := congrArg (·.2.2.2.2.1) e
  have e6 := congrArg (·.2.2.2.2.2.1) e
  have e7 := congrArg (·.2.2.2.2.2.2.1) e
  have e8 := congrArg (·.2.2.2.2.2.2.2) e
  have n1 : ∀ i, _ = _ := nth_of e1
  have n2 : ∀ i, _ = _ := nth_of e2
  have n3 : ∀ i, _ = _ := nth_of e3
  have n4 : ∀ i, _ = _ := nth_of e4
  have n5 : ∀ i, _ = _ := nth_of e5
  have n6 : ∀ i, _ = _ := nth_of e6
  exact ⟨{ b_int := (Option.some.inj (n4 0)), b_abs := (Option.some.inj (n4 1)), b_divmod := (Option.some.inj (n4 2)), b_len := (Option.some.inj (n4 3)), b_reversed := (Option.some.inj (n4 4)), b_range := (Option.some.inj (n4 5)), b_zip := (Option.some.inj (n4 6)), b_enumerate := (Option.some.inj (n4 7)), b_list := (Option.some.inj (n4 8)), b_chr := (Option.some.inj (n4 9)), b_ord := (Option.some.inj (n4 10)), b_iter := (Option.some.inj (n4 11)), i_div := e7, g_ap := (Option.some.inj (n4 12)), g_div2 := (Option.some.inj (n4 13)), g_i2d := (Option.some.inj (n4 14)), g_d2i := (Option.some.inj (n4 15)), g_dmp := (Option.some.inj (n4 16)), g_idm := (Option.some.inj (n4 17)), g_cls := (Option.some.inj (n4 18)), g_reader := (Option.some.inj (n4 19)), g_line := (Option.some.inj (n4 20)), g_word := (Option.some.inj (n4 21)), g_text := (Option.some.inj (n4 22)), g_taken := (Option.some.inj (n4 23)), g_out := (Option.some.inj (n4 24)), g_lin := (Option.some.inj (n4 25)), g_counted := (Option.some.inj (n4 26)), t_ap := lookT (Option.some.inj (n1 0)) (Option.some.inj (n2 0)), q_ap := lookQ (Option.some.inj (n3 0)) (Option.some.inj (n2 0)), t_div2 := lookT (Option.some.inj (n1 1)) (Option.some.inj (n2 1)), q_div2 := lookQ (Option.some.inj (n3 1)) (Option.some.inj (n2 1)), t_i2d := lookT (Option.some.inj (n1 2)) (Option.some.inj (n2 2)), q_i2d := lookQ (Option.some.inj (n3 2)) (Option.some.inj (n2 2)), t_d2i := lookT (Option.some.inj (n1 3)) (Option.some.inj (n2 3)), q_d2i := lookQ (Option.some.inj (n3 3)) (Option.some.inj (n2 3)), t_dmp := lookT (Option.some.inj (n1 4)) (Option.some.inj (n2 4)), q_dmp := lookQ (Option.some.inj (n3 4)) (Option.some.inj (n2 4)), t_idm := lookT (Option.some.inj (n1 5)) (Option.some.inj (n2 5)), q_idm := lookQ (Option.some.inj (n3 5)) (Option.some.inj (n2 5)), t_reader := lookT (Option.some.inj (n1 6)) (Option.some.inj (n2 6)), q_reader := lookQ (Option.some.inj (n3 6)) (Option.some.inj (n2 6)), t_line := lookT (Option.some.inj (n1 7)) (Option.some.inj (n2 7)), q_line := lookQ (Option.some.inj (n3 7)) (Option.some.inj (n2 7)), t_word := lookT (Option.some.inj (n1 8)) (Option.some.inj (n2 8)), q_word := lookQ (Option.some.inj (n3 8)) (Option.some.inj (n2 8)), t_text := lookT (Option.some.inj (n1 9)) (Option.some.inj (n2 9)), q_text := lookQ (Option.some.inj (n3 9)) (Option.some.inj (n2 9)), t_taken := lookT (Option.some.inj (n1 10)) (Option.some.inj (n2 10)), q_taken := lookQ (Option.some.inj (n3 10)) (Option.some.inj (n2 10)), t_out := lookT (Option.some.inj (n1 11)) (Option.some.inj (n2 11)), q_out := lookQ (Option.some.inj (n3 11)) (Option.some.inj (n2 11)), t_lin := lookT (Option.some.inj (n1 12)) (Option.some.inj (n2 12)), q_lin := lookQ (Option.some.inj (n3 12)) (Option.some.inj (n2 12)), t_counted := lookT (Option.some.inj (n1 13)) (Option.some.inj (n2 13)), q_counted := lookQ (Option.some.inj (n3 13)) (Option.some.inj (n2 13)), t_fInit := lookT (Option.some.inj (n1 14)) (Option.some.inj (n2 14)), q_fInit := lookQ (Option.some.inj (n3 14)) (Option.some.inj (n2 14)), t_fRead := lookT (Option.some.inj (n1 15)) (Option.some.inj (n2 15)), q_fRead := lookQ (Option.some.inj (n3 15)) (Option.some.inj (n2 15)), t_fGet := lookT (Option.some.inj (n1 16)) (Option.some.inj (n2 16)), q_fGet := lookQ (Option.some.inj (n3 16)) (Option.some.inj (n2 16)), t_fPush := lookT (Option.some.inj (n1 17)) (Option.some.inj (n2 17)), q_fPush := lookQ (Option.some.inj (n3 17)) (Option.some.inj (n2 17)), t_law := lookT (Option.some.inj (n1 18)) (Option.some.inj (n2 18)), q_law := lookQ (Option.some.inj (n3 18)) (Option.some.inj (n2 18)), g_law := (Option.some.inj (n4 27)), cls := { ok := ⟨(Option.some.inj (n6 3)), (Option.some.inj (n6 4)), (Option.some.inj (n4 28)), (Option.some.inj (n6 5)), (Option.some.inj (n6 6)), (Option.some.inj (n6 7))⟩, init := (Option.some.inj (n4 29)), initT := (Option.some.inj (n5 0)), read := (Option.some.inj (n4 30)), readT := (Option.some.inj (n6 0)), readG := (Option.some.inj (n4 31)), readS := e8, get := (Option.some.inj (n4 32)), getT := (Option.some.inj (n6 1)), push := (Option.some.inj (n4 33)), pushT := (Option.some.inj (n6 2)), at1 := ⟨(Option.some.inj (n4 34)), (Option.some.inj (n4 35))⟩, at2 := ⟨(Option.some.inj (n4 36)), (Option.some.inj (n4 37))⟩, at3 := ⟨(Option.some.inj (n4 38)), (Option.some.inj (n4 39))⟩, at4 := ⟨(Option.some.inj (n4 40)), (Option.some.inj (n4 41))⟩ } }, (Option.some.inj (n6 8)), (Option.some.inj (n6 9)), (Option.some.inj (n6 10)), (Option.some.inj (n6 11))⟩
theorem codes3 {K : Frag} (e : chk3 K = ok3) : codeAt K ad3.i2d = 41 ∧ codeAt K ad3.d2i = 48 ∧ codeAt K ad3.reader = 111 := by
  have n2 : ∀ i, _ = _ := nth_of (congrArg (·.2.1) e)
  exact ⟨(Option.some.inj (n2 2)), (Option.some.inj (n2 3)), (Option.some.inj (n2 6))⟩
end
theorem mem_code {K : Frag} {fa c P : Addr} {tabs : List (Addr × Addr)} (e : codeAt K fa = c) (h : (c, P) ∈ tabs) : (codeAt K fa, P) ∈ tabs := by rw [e]; exact h
theorem tabs_at {K : Frag} {h : Heap} (X : K.In h) (h1 : codeHdIn K 48 44 = true) (h2 : codeHdIn K 111 107 = true) (h3 : codeHdIn K 41 37 = true) (hT : ∀ P ∈ [44, 107, 37], h.get? P = some (tabObj #[])) : TabsAt ([(48, 44), (111, 107), (41, 37)] : List (Addr × Addr)) h :=
  List.forall_mem_cons.mpr ⟨⟨codeHd_of_K X h1, hT 44 (.head _)⟩, List.forall_mem_cons.mpr ⟨⟨codeHd_of_K X h2, hT 107 (.tail _ (.head _))⟩, List.forall_mem_cons.mpr ⟨⟨codeHd_of_K X h3, hT 37 (.tail _ (.tail _ (.head _)))⟩, fun _ h => nomatch h⟩⟩⟩
noncomputable def view3 : Program := { rw_sw0039_03.prog with main := { rw_sw0039_03.prog.main with body := [1, 3, 4, 5, 6, 7, 8, 9, 11, 13, 14, 15, 16, 17, 18, 19, 20, 21].filterMap fun i => rw_sw0039_03.prog.main.body[i]? } }
noncomputable def xt3 (s : Shared) : Bool := xlAt view3 [] s && recOk (RowW.records (OpenRow.toRowW rw_sw0039_03.row)) s
theorem left3 : LeftO rw_sw0039_03.row.prog view3 [] xt3 (Hook.obs hook3) (Hook.val hook3) 1868 := fun w => by kernel_rfl
theorem said3 : rw_sw0039_03.wellSaid = true := by kernel_rfl
end Mine
open PySem.Challenge Mine
theorem PySem.Challenge.cw_sw0039_03_holds : PySem.Challenge.rw_sw0039_03.Holds := by
  w_on
  refine holds_law said3 fun said => ?_
  refine holds_open (q := view3) (loose := []) (Xt := xt3) (XP := XL view3 []) (Yf := Hook.obs hook3) (Ya := Hook.val hook3) (YP := Hook.says hook3) (N := 1868) left3 (Hook.of hook3) (Hook.keeps hook3) (fun s e => xl_of s (Bool.and_eq_true_iff.mp e).1) XL.keeps (by rfl) (by rfl) (by rfl) (fun s e => recFacts_of (Bool.and_eq_true_iff.mp e).2) (by rfl) said (by decide +kernel) ⟨rfl, rfl, rfl, rfl, rfl, by decide +kernel⟩ ?hw ?hc
  (case hw => w_witness2)
  w_strict (
    intro w s₀ s₁ mg mb G Y fa o pm cd doc dV kV ho hd hcd hD hmg hg args vals as hpre hlay hrd hwl hlo
    obtain ⟨⟨K, KX, kk⟩, hT8⟩ := Y
    obtain ⟨kok, hn, hc1, hc2, hc3⟩ := kok3 kk
    refine Ground.open G ?_
    intro T B D TE TW
    try (refine guard_noD D (by decide +kernel) ?_; clear D)
    have hT9 := tabs_at KX hc1 hc2 hc3 hT8
    wrow_args hpre hlay hrd hwl hlo
    first | refine callC_kw (enter_call ?_) | refine enter_call ?_
    w_top on
    kn_posts
    rename Heap.IsList _ _ _ => hsl
    rename IntsAre _ _ => hns
    refine codeAny_mono (law3_code kok hT9 KX hn T hg hmg hsl hns ?kz ⟨rfl, by decide, by decide⟩ ?m1 ?m2 ?m3 (by decide)) ?kp
    case kz => omega
    case m1 => exact mem_code (c := 41) (codes3 kk).1 (by decide)
    case m2 => exact mem_code (c := 48) (codes3 kk).2.1 (by decide)
    case m3 => exact mem_code (c := 111) (codes3 kk).2.2 (by decide)
    case kp =>
      rintro r s' ⟨rfl, h1, h2, h3, h4, h5, h6⟩
      exact ⟨⟨.inl ⟨.bool true, .bool true, [], rfl, fun _ => rfl, .bool true, by kernel_rfl, fun _ => ⟨List.nodup_nil, fun a ha => by cases ha⟩⟩, h1, h2, h3⟩, h5, h6, h4, trivial⟩)
