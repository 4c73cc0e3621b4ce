import PyProof.Rows.All
import Wide.All
import OpenK.AllK
import Wide.FinOn
import PyProof.ExcStrCall
import PyProof.WalksMore
import KE.BytesMake
import PySem.Challenge.RW_sw0039_01
open PySem PySem.W PySem.Calls PyProof.Rows
set_option Elab.async false
set_option maxRecDepth 100000
set_option linter.all false
set_option maxHeartbeats 8000000
set_option genSizeOf false
set_option tactic.hygienic false
set_option compiler.extract_closed false
set_option bootstrap.genMatcherCode false
namespace Mine.Internal
noncomputable section
theorem E02 {p0 p1 P : Prop} (h : p0 ∧ p1) (k : p0 → p1 → P) : P := k (h.1) (h.2)
theorem E11 {α0 : Type} {p0 : α0 → Prop} {P : Prop} (h : ∃ x0, p0 x0) (k : ∀ x0, p0 x0 → P) : P := h.elim fun x0 h => k x0 (h)
theorem E12 {α0 : Type} {p0 p1 : α0 → Prop} {P : Prop} (h : ∃ x0, p0 x0 ∧ p1 x0) (k : ∀ x0, p0 x0 → p1 x0 → P) : P := h.elim fun x0 h => k x0 (h.1) (h.2)
theorem E13 {α0 : Type} {p0 p1 p2 : α0 → Prop} {P : Prop} (h : ∃ x0, p0 x0 ∧ p1 x0 ∧ p2 x0) (k : ∀ x0, p0 x0 → p1 x0 → p2 x0 → P) : P := h.elim fun x0 h => k x0 (h.1) (h.2.1) (h.2.2)
theorem E15 {α0 : Type} {p0 p1 p2 p3 p4 : α0 → Prop} {P : Prop} (h : ∃ x0, p0 x0 ∧ p1 x0 ∧ p2 x0 ∧ p3 x0 ∧ p4 x0) (k : ∀ x0, p0 x0 → p1 x0 → p2 x0 → p3 x0 → p4 x0 → P) : P := h.elim fun x0 h => k x0 (h.1) (h.2.1) (h.2.2.1) (h.2.2.2.1) (h.2.2.2.2)
theorem E21 {α0 α1 : Type} {p0 : α0 → α1 → Prop} {P : Prop} (h : ∃ x0 x1, p0 x0 x1) (k : ∀ x0 x1, p0 x0 x1 → P) : P := h.elim fun x0 h => h.elim fun x1 h => k x0 x1 (h)
theorem E22 {α0 α1 : Type} {p0 p1 : α0 → α1 → Prop} {P : Prop} (h : ∃ x0 x1, p0 x0 x1 ∧ p1 x0 x1) (k : ∀ x0 x1, p0 x0 x1 → p1 x0 x1 → P) : P := h.elim fun x0 h => h.elim fun x1 h => k x0 x1 (h.1) (h.2)
theorem E23 {α0 α1 : Type} {p0 p1 p2 : α0 → α1 → Prop} {P : Prop} (h : ∃ x0 x1, p0 x0 x1 ∧ p1 x0 x1 ∧ p2 x0 x1) (k : ∀ x0 x1, p0 x0 x1 → p1 x0 x1 → p2 x0 x1 → P) : P := h.elim fun x0 h => h.elim fun x1 h => k x0 x1 (h.1) (h.2.1) (h.2.2)
theorem E24 {α0 α1 : Type} {p0 p1 p2 p3 : α0 → α1 → Prop} {P : Prop} (h : ∃ x0 x1, p0 x0 x1 ∧ p1 x0 x1 ∧ p2 x0 x1 ∧ p3 x0 x1) (k : ∀ x0 x1, p0 x0 x1 → p1 x0 x1 → p2 x0 x1 → p3 x0 x1 → P) : P := h.elim fun x0 h => h.elim fun x1 h => k x0 x1 (h.1) (h.2.1) (h.2.2.1) (h.2.2.2)
theorem E32 {α0 α1 α2 : Type} {p0 p1 : α0 → α1 → α2 → Prop} {P : Prop} (h : ∃ x0 x1 x2, p0 x0 x1 x2 ∧ p1 x0 x1 x2) (k : ∀ x0 x1 x2, p0 x0 x1 x2 → p1 x0 x1 x2 → P) : P := h.elim fun x0 h => h.elim fun x1 h => h.elim fun x2 h => k x0 x1 x2 (h.1) (h.2)
theorem sub_s {n i : Nat} (h : i < n) : n - i = n - (i + 1) + 1 := (Nat.sub_one_add_one (Nat.sub_ne_zero_of_lt h)).symm
theorem last_ix {n : Nat} (h : 0 < n) : (-1 + (n : Int)).toNat = n - 1 := (congrArg Int.toNat (Int.add_comm _ _)).trans (Int.toNat_sub n 1)
theorem csub {a b : Nat} (h : a ≤ b) : (b : Int) - (a : Int) = ((b - a : Nat) : Int) := by exact Eq.symm (Int.ofNat_sub h)
theorem abs_diff {a b n : Nat} (ha : a < n) (hb : b < n) : ((b : Int) - (a : Int)).natAbs < n := (Nat.le_total a b).elim (fun h => by rw [← Int.ofNat_sub h]; exact Nat.lt_of_le_of_lt (Nat.sub_le _ _) hb) (fun h => by rw [← Int.natAbs_neg, Int.neg_sub, ← Int.ofNat_sub h]; exact Nat.lt_of_le_of_lt (Nat.sub_le _ _) ha)
theorem hvD1 {L R e : Nat} (hd : R ≤ e * 2 + L) : (L + R) / 2 ≤ e + L := by lia
theorem hvD2 {L R e : Nat} (hd : R ≤ e * 2 + L) : R ≤ e + (L + R) / 2 := by lia
theorem halvesD {L R M d : Nat} (hM : (L + R) / 2 = M) (hd : R - L ≤ 2 ^ (d + 1)) : M - L ≤ 2 ^ d ∧ R - M ≤ 2 ^ d := hM ▸ ⟨Nat.sub_le_of_le_add (hvD1 (Nat.le_add_of_sub_le hd)), Nat.sub_le_of_le_add (hvD2 (Nat.le_add_of_sub_le hd))⟩
theorem splitL {L M R : Nat} (h1 : L ≤ M) (h2 : M ≤ R) : R - L = M - L + (R - M) := by rw [Nat.add_comm]; exact (Nat.sub_add_sub_cancel h2 h1).symm
theorem addL {L M n : Nat} (h1 : L ≤ M) (h2 : M ≤ n) : L + (M - L) ≤ n := by rw [Nat.add_sub_cancel' h1]; exact h2
theorem neg1 {n : Nat} (h : 0 < n) : -(n : Int) ≤ -1 := by lia
theorem m11 (x : Nat) : (((x % 11 : Nat) : Int) - 5).natAbs < 6 := by omega
theorem halves {L R M : Nat} (hM : (L + R) / 2 = M) (h : L < R) (h1 : ¬ R = L + 1) : L < M ∧ M < R := by lia
end
noncomputable section
inductive V where
  | none | bool (b : Bool) | int (i : Int) | str (x : Str) | bytes (b : Array UInt8)
  | ref (a : Addr) | bi (id : String) | ty (n : String) | tup (vs : List V)

mutual
noncomputable def VRel (X : List Addr) (h : Heap) : V → Value → Prop
  | .none, v => v = .none
  | .bool b, v => v = .bool b
  | .int i, v => ∃ t, v = .int i t
  | .str x, v => ∃ t, v = .str x t
  | .bytes b, v => ∃ t, v = .bytes b t
  | .ref a, v => v = .ref a
  | .bi id, v => v = .builtin id
  | .ty n, v => v = .type n
  | .tup vs, v => ∃ a items, v = .ref a ∧ a ∉ X ∧ h.IsTuple a items ∧ VsRel X h vs items.toList
noncomputable def VsRel (X : List Addr) (h : Heap) : List V → List Value → Prop
  | [], l => l = []
  | x :: xs, l => ∃ v r, l = v :: r ∧ VRel X h x v ∧ VsRel X h xs r
end

noncomputable def Frozen (X : List Addr) (a : Addr) (o : Obj) : Prop := (a ∉ X ∧ o.cls = .type "tuple" ∧ ∃ items n, o.data = .seq items n) ∨ (o.cls = .type "code" ∧ ∃ vs, o.data = .fields vs)
noncomputable def Fz (X : List Addr) (h h' : Heap) : Prop := ∀ a o, h.get? a = some o → Frozen X a o → h'.get? a = some o


theorem IsTuple.fz {X : List Addr} {h h' : Heap} {a : Addr} {items : Array Value} (x : Fz X h h') (hX : a ∉ X) (t : h.IsTuple a items) : h'.IsTuple a items :=
  let ⟨o, ho, hc, n, r⟩ := t; ⟨o, x a o ho (.inl ⟨hX, hc, _, _, r⟩), hc, n, r⟩

noncomputable abbrev TChg (X X' : List Addr) (h h' : Heap) : Prop := ∀ a items, a ∉ X → h.IsTuple a items → a ∉ X' ∧ h'.IsTuple a items
mutual
theorem VRel.chg {X X' : List Addr} {h h' : Heap} (x : TChg X X' h h') : ∀ {u : V} {v : Value}, VRel X h u v → VRel X' h' u v
  | .none, _, r => by simpa only [VRel] using r
  | .bool _, _, r => by simpa only [VRel] using r
  | .int _, _, r => by simpa only [VRel] using r
  | .str _, _, r => by simpa only [VRel] using r
  | .bytes _, _, r => by simpa only [VRel] using r
  | .ref _, _, r => by simpa only [VRel] using r
  | .bi _, _, r => by simpa only [VRel] using r
  | .ty _, _, r => by simpa only [VRel] using r
  | .tup vs, v, r => by
    simp only [VRel] at r ⊢
    obtain ⟨a, items, e, hX, t, q⟩ := r
    obtain ⟨hX', t'⟩ := x a items hX t
    exact ⟨a, items, e, hX', t', VsRel.chg x q⟩
theorem VsRel.chg {X X' : List Addr} {h h' : Heap} (x : TChg X X' h h') : ∀ {us : List V} {vs : List Value}, VsRel X h us vs → VsRel X' h' us vs
  | [], _, r => by simpa only [VsRel] using r
  | u :: us, vs, r => by
    simp only [VsRel] at r ⊢
    obtain ⟨v, l, e, q, q'⟩ := r
    exact ⟨v, l, e, VRel.chg x q, VsRel.chg x q'⟩
end
theorem Fz.chg {X : List Addr} {h h' : Heap} (x : Fz X h h') : TChg X X h h' := fun zz zz n t => ⟨n, IsTuple.fz x n t⟩
theorem VRel.fz {X : List Addr} {h h' : Heap} (x : Fz X h h') {u : V} {v : Value} (r : VRel X h u v) : VRel X h' u v := r.chg x.chg
theorem VsRel.fz {X : List Addr} {h h' : Heap} (x : Fz X h h') {us : List V} {vs : List Value} (r : VsRel X h us vs) : VsRel X h' us vs := r.chg x.chg

theorem VsRel.length {X : List Addr} {h : Heap} : ∀ {us : List V} {vs : List Value}, VsRel X h us vs → vs.length = us.length
  | [], _, r => by simp only [VsRel] at r; simp [r]
  | u :: us, vs, r => by
    simp only [VsRel] at r
    obtain ⟨v, l, e, _, q'⟩ := r
    simp [e, VsRel.length q']
theorem VsRel.nil {X : List Addr} {h : Heap} : VsRel X h [] [] := by simp only [VsRel]
theorem VsRel.cons {X : List Addr} {h : Heap} {u : V} {v : Value} {us : List V} {vs : List Value} (q : VRel X h u v) (r : VsRel X h us vs) : VsRel X h (u :: us) (v :: vs) := by
  simp only [VsRel]; exact ⟨v, vs, rfl, q, r⟩
theorem VsRel.get {X : List Addr} {h : Heap} : ∀ {us : List V} {vs : List Value} {i : Nat} {u : V}, VsRel X h us vs → us[i]? = some u → ∃ v, vs[i]? = some v ∧ VRel X h u v
  | [], _, _, _, _, e => by simp at e
  | x :: us, vs, i, u, r, e => by
    simp only [VsRel] at r
    obtain ⟨v, l, rfl, q, q'⟩ := r
    cases i with
    | zero => simp at e; subst e; exact ⟨v, by simp, q⟩
    | succ i => simp at e; obtain ⟨w, hw, hr⟩ := VsRel.get q' e; exact ⟨w, by simpa using hw, hr⟩
theorem VsRel.append {X : List Addr} {h : Heap} : ∀ {us us' : List V} {vs vs' : List Value}, VsRel X h us vs → VsRel X h us' vs' → VsRel X h (us ++ us') (vs ++ vs')
  | [], _, _, _, r, r' => by simp only [VsRel] at r; subst r; simpa using r'
  | x :: us, _, vs, _, r, r' => by
    simp only [VsRel] at r
    obtain ⟨v, l, rfl, q, q'⟩ := r
    exact VsRel.cons q (VsRel.append q' r')
theorem VsRel.of_get {X : List Addr} {h : Heap} : ∀ {us : List V} {vs : List Value}, vs.length = us.length → (∀ (i : Nat) (u : V), us[i]? = some u → ∃ v : Value, vs[i]? = some v ∧ VRel X h u v) → VsRel X h us vs
  | [], vs, e, _ => by simp only [VsRel]; exact List.length_eq_zero_iff.mp e
  | u :: us, [], e, _ => by simp at e
  | u :: us, v :: vs, e, k => by
    obtain ⟨w, hw, hr⟩ := k 0 u rfl
    simp at hw; subst hw
    exact VsRel.cons hr (VsRel.of_get (by simpa using e) fun i u' hu => by simpa using k (i + 1) u' (by simpa using hu))

noncomputable def NsRel (X : List Addr) (h : Heap) (m : Str → Option Value) : List Str → List (Option V) → Prop
  | [], l => l = []
  | n :: ns, l => ∃ o r, l = o :: r ∧ (∀ u, o = some u → ∃ v, m n = some v ∧ VRel X h u v) ∧ NsRel X h m ns r

theorem NsRel.chg {X X' : List Addr} {h h' : Heap} {m : Str → Option Value} (x : TChg X X' h h') : ∀ {ns : List Str} {os : List (Option V)}, NsRel X h m ns os → NsRel X' h' m ns os
  | [], _, r => r
  | n :: ns, l, ⟨o, r, e, q, q'⟩ => ⟨o, r, e, fun u hu => let ⟨v, a, b⟩ := q u hu; ⟨v, a, b.chg x⟩, NsRel.chg x q'⟩
theorem NsRel.fz {X : List Addr} {h h' : Heap} {m : Str → Option Value} (x : Fz X h h') {ns : List Str} {os : List (Option V)} (r : NsRel X h m ns os) : NsRel X h' m ns os := r.chg x.chg

inductive At : List Str → List (Option V) → Str → V → Prop
  | head {x ns v os} : At (x :: ns) (some v :: os) x v
  | tail {n ns o os x v} : At ns os x v → At (n :: ns) (o :: os) x v
inductive Put : List Str → List (Option V) → Str → V → List (Option V) → Prop
  | head {x ns o v os} : Put (x :: ns) (o :: os) x v (some v :: os)
  | tail {n ns o os x v os'} : Put ns os x v os' → Put (n :: ns) (o :: os) x v (o :: os')

theorem At.get {X : List Addr} {h : Heap} {m : Str → Option Value} {ns os x v} (a : At ns os x v) : NsRel X h m ns os → ∃ w, m x = some w ∧ VRel X h v w := by
  induction a with
  | head => rintro ⟨o, r, e, q, _⟩; cases e; exact q _ rfl
  | tail _ ih => rintro ⟨o, r, e, _, q⟩; cases e; exact ih q
theorem At.mem {ns os x v} (a : At ns os x v) : x ∈ ns := by
  induction a with
  | head => exact .head _
  | tail _ ih => exact .tail _ ih
theorem Put.mem {ns os x v os'} (a : Put ns os x v os') : x ∈ ns := by
  induction a with
  | head => exact .head _
  | tail _ ih => exact .tail _ ih
theorem NsRel.other {X : List Addr} {h : Heap} {m m' : Str → Option Value} : ∀ {ns os}, NsRel X h m ns os → (∀ n ∈ ns, m' n = m n) → NsRel X h m' ns os
  | [], _, r, _ => r
  | n :: ns, _, ⟨o, r, e, q, q'⟩, k => ⟨o, r, e, fun u hu => by rw [k n (.head _)]; exact q u hu, q'.other fun n hn => k n (.tail _ hn)⟩
theorem Put.rel {X : List Addr} {h : Heap} {m : Str → Option Value} {ns os x v os' w} (a : Put ns os x v os') (hv : VRel X h v w) : ns.Nodup → NsRel X h m ns os → NsRel X h (fun y => if y = x then some w else m y) ns os' := by
  induction a with
  | head =>
    rintro nd ⟨o, r, e, _, q⟩; cases e
    refine ⟨_, _, rfl, fun u hu => ?_, q.other fun n hn => ?_⟩
    · cases hu; exact ⟨w, by simp, hv⟩
    · exact if_neg fun e => (List.nodup_cons.mp nd).1 (by rw [← e]; exact hn)
  | tail a ih =>
    rintro nd ⟨o, r, e, q, q'⟩; cases e
    obtain ⟨h1, h2⟩ := List.nodup_cons.mp nd
    refine ⟨_, _, rfl, fun u hu => ?_, ih hv h2 q'⟩
    obtain ⟨v', e1, e2⟩ := q u hu
    exact ⟨v', (if_neg fun e => h1 (by rw [e]; exact a.mem)).trans e1, e2⟩

structure FnA where
  qual : Str
  params : Arguments
  body : FuncBody
  scope : Scope
  closure : List (Str × Addr)

inductive AO where
  | list (vs : List V)
  | ns (names : List Str) (vals : List (Option V))
  | cell (v : Option V)
  | attrs (es : List (Str × V))
  | obj (o : Obj)
  | fn (f : FnA)
  | fobj (d : Addr)
  | tab (qual : Str)
  | dict (es : List (Str × V))

noncomputable def EsRel (X : List Addr) (h : Heap) : List (Str × V) → List DictEntry → Prop
  | [], l => l = []
  | (k, u) :: es, l => ∃ e r, l = e :: r ∧ (∃ t, e.key = .str k t) ∧ VRel X h u e.val ∧ EsRel X h es r

theorem EsRel.chg {X X' : List Addr} {h h' : Heap} (x : TChg X X' h h') : ∀ {es : List (Str × V)} {l : List DictEntry}, EsRel X h es l → EsRel X' h' es l
  | [], _, r => r
  | (k, u) :: es, l, ⟨e, r, a, b, c, d⟩ => ⟨e, r, a, b, c.chg x, d.chg x⟩
theorem EsRel.fz {X : List Addr} {h h' : Heap} (x : Fz X h h') {es : List (Str × V)} {l : List DictEntry} (r : EsRel X h es l) : EsRel X h' es l := r.chg x.chg

noncomputable abbrev AH := List (Addr × AO)

structure Cfg where
  prog : Program
  w : World
  K : Frag
  B : Heap
  os : OsState
  X : List Addr
  mg : Str → Option Value
  mb : Str → Option Value

noncomputable def CodeF (h : Heap) (cd : Value) (q : Str) : Prop := ∃ c o vs t, cd = .ref c ∧ h.get? c = some o ∧ o.cls = .type "code" ∧ o.data = .fields vs ∧ vs[1]? = some (.str q t)
theorem CodeF.fz {X : List Addr} {h h' : Heap} {cd : Value} {q : Str} (x : Fz X h h') : CodeF h cd q → CodeF h' cd q := fun ⟨c, o, vs, t, a, b, d, e⟩ => ⟨c, o, vs, t, a, x c o b (.inr ⟨d, _, e.1⟩), d, e⟩
theorem CodeF.rec {h : Heap} {cd : Value} {q : Str} : CodeF h cd q → h.CodeRec cd q := fun ⟨c, o, vs, t, a, b, _, e⟩ => ⟨c, o, vs, t, a, b, e⟩

structure FnO (h : Heap) (a : Addr) (f : FnA) (o : Obj) (fd : FuncData) : Prop where
  get : h.get? a = some o
  cls : o.cls = .type "function"
  dat : o.data = .func fd
  r1 : fd.qualname = f.qual
  r2 : fd.params = f.params
  r3 : fd.body = f.body
  r4 : fd.scope = f.scope
  r5 : fd.closure = f.closure
  r6 : fd.globals = mainGlobals
  r7 : fd.builtins = builtinsNs
  r8 : fd.defaults = .none
  r9 : fd.kwdefaults = .none
  code : CodeF h fd.code fd.qualname
  r10 : o.dict = none
  r11 : o.slots = #[]
noncomputable def ORel (X : List Addr) (h : Heap) (a : Addr) : AO → Prop
  | .list vs => ∃ items, h.PlainList a items ∧ VsRel X h vs items.toList
  | .ns names vals => names.Nodup ∧ ∃ m, h.Ns a m ∧ NsRel X h m names vals
  | .cell u => ∃ v, h.IsCell a v ∧ ∀ x, u = some x → ∃ y, v = some y ∧ VRel X h x y
  | .attrs es => ∃ l n, h.get? a = some (dictOf l n) ∧ EsRel X h es l
  | .obj o => h.get? a = some o ∧ ¬ Frozen X a o
  | .fn f => ∃ o fd, FnO h a f o fd
  | .fobj d => ∃ fd, h.get? a = some { cls := .type "function", dict := some d, data := .func fd }
  | .tab q => ∃ ps, h.get? a = some (tabObj ps) ∧ TriplesOk ps.toList ∧ ∀ pos c, codeAmong pos ps.toList = some c → CodeF h c q
  | .dict es => ∃ l n, h.get? a = some (dictOf l n) ∧ EsRel X h es l

theorem fz_data {X : List Addr} {a : Addr} {o : Obj} (h1 : ∀ i n, o.data ≠ .seq i n ∨ o.cls ≠ .type "tuple") (h2 : ∀ v, o.data ≠ .fields v) : ¬ Frozen X a o
  | .inl ⟨_, c, i, n, d⟩ => (h1 i n).elim (· d) (· c)
  | .inr ⟨_, v, d⟩ => h2 v d
theorem ORel.live {X : List Addr} {h : Heap} {a : Addr} {x : AO} (r : ORel X h a x) : ∃ o, h.get? a = some o ∧ ¬ Frozen X a o := by
  cases x with
  | list _ => exact r.elim fun zz p => p.1.elim fun zz e => ⟨_, e, fz_data (fun zz zz => .inr (by simp)) (fun zz => nofun)⟩
  | ns _ _ => exact r.2.elim fun zz p => p.1.elim fun o q => q.elim fun zz q => q.elim fun zz q => ⟨o, q.1, fz_data (fun zz zz => .inl (by rw [q.2.1]; nofun)) (fun zz => by rw [q.2.1]; nofun)⟩
  | cell _ => exact r.elim fun zz p => p.1.elim fun o q => ⟨o, q.1, fz_data (fun zz zz => .inl (by rw [q.2]; nofun)) (fun zz => by rw [q.2]; nofun)⟩
  | attrs _ => exact r.elim fun zz p => p.elim fun zz q => ⟨_, q.1, fz_data (fun zz zz => .inl nofun) (fun zz => nofun)⟩
  | obj _ => exact ⟨_, r⟩
  | fn _ => exact r.elim fun o p => p.elim fun zz q => ⟨o, q.get, fz_data (fun zz zz => .inl (by rw [q.dat]; nofun)) (fun zz => by rw [q.dat]; nofun)⟩
  | fobj _ => exact r.elim fun zz e => ⟨_, e, fz_data (fun zz zz => .inl nofun) (fun zz => nofun)⟩
  | tab _ => exact r.elim fun zz p => ⟨_, p.1, by simp [Frozen]⟩
  | dict _ => exact r.elim fun zz p => p.elim fun zz q => ⟨_, q.1, fz_data (fun zz zz => .inl nofun) (fun zz => nofun)⟩

theorem notFrozen_chg {X X' : List Addr} {a : Addr} {o : Obj} (hs : a ∉ X' → a ∉ X) (f : ¬ Frozen X a o) : ¬ Frozen X' a o := fun g => f (g.imp (fun ⟨h, r⟩ => ⟨hs h, r⟩) id)
theorem ORel.chg {X X' : List Addr} {h h' : Heap} {a : Addr} (x : TChg X X' h h') (ka : a ∉ X' → a ∉ X) (kc : ∀ c q, CodeF h c q → CodeF h' c q) (k : ∀ o, h.get? a = some o → h'.get? a = some o) {u : AO} (r : ORel X h a u) : ORel X' h' a u := by
  cases u with
  | list _ => exact r.elim fun i p => ⟨i, p.1.elim fun n e => ⟨n, k _ e⟩, p.2.chg x⟩
  | ns _ _ => exact ⟨r.1, r.2.elim fun m p => ⟨m, p.1.at' k, p.2.chg x⟩⟩
  | cell _ => exact r.elim fun v p => ⟨v, p.1.elim fun o e => ⟨o, k _ e.1, e.2⟩, fun u hu => (p.2 u hu).elim fun y q => ⟨y, q.1, q.2.chg x⟩⟩
  | attrs _ => exact r.elim fun l p => p.elim fun n q => ⟨l, n, k _ q.1, q.2.chg x⟩
  | obj _ => exact ⟨k _ r.1, notFrozen_chg ka r.2⟩
  | fn _ => exact r.elim fun o p => p.elim fun fd q => ⟨o, fd, { q with get := k _ q.get, code := kc _ _ q.code }⟩
  | fobj _ => exact r.elim fun fd e => ⟨fd, k _ e⟩
  | tab _ => exact r.elim fun ps p => ⟨ps, k _ p.1, p.2.1, fun s c hc => kc _ _ (p.2.2 s c hc)⟩
  | dict _ => exact r.elim fun l p => p.elim fun n q => ⟨l, n, k _ q.1, q.2.chg x⟩
theorem ORel.move {X : List Addr} {h h' : Heap} {a : Addr} (x : Fz X h h') (k : ∀ o, h.get? a = some o → h'.get? a = some o) {u : AO} (r : ORel X h a u) : ORel X h' a u := r.chg x.chg id (fun zz zz c => c.fz x) k

noncomputable abbrev keys (H : AH) : List Addr := H.map (·.1)

structure Rel (C : Cfg) (H : AH) (s : Shared) : Prop where
  keep : ∀ b o, C.B.get? b = some o → s.heap.get? b = some o
  gens : s.gens = #[]
  os : s.os = C.os
  nd : (keys H).Nodup
  fresh : ∀ p ∈ H, C.B.get? p.1 = none
  objs : ∀ p ∈ H, ORel C.X s.heap p.1 p.2
  xl : ∀ a ∈ C.X, a ∉ keys H ∧ ∃ o, s.heap.get? a = some o

noncomputable def Kept (H : AH) (s : Shared) (H' : AH) (s' : Shared) : Prop := ∀ b o, b ∉ keys H → s.heap.get? b = some o → s'.heap.get? b = some o ∧ b ∉ keys H'

theorem Kept.refl (H : AH) (s : Shared) : Kept H s H s := fun zz zz n e => ⟨e, n⟩
theorem Kept.trans {H H' H'' : AH} {s s' s'' : Shared} (x : Kept H s H' s') (y : Kept H' s' H'' s'') : Kept H s H'' s'' := fun b o n e =>
  let ⟨e', n'⟩ := x b o n e; y b o n' e'
theorem Rel.notin {C : Cfg} {H : AH} {s : Shared} (R : Rel C H s) {a : Addr} {o : Obj} (e : s.heap.get? a = some o) (f : Frozen C.X a o) : a ∉ keys H := fun h => by
  obtain ⟨p, hp, rfl⟩ := List.mem_map.mp h
  obtain ⟨o', e', n⟩ := (R.objs p hp).live
  rw [e] at e'; cases e'; exact n f
theorem Kept.fz {C : Cfg} {H H' : AH} {s s' : Shared} (R : Rel C H s) (k : Kept H s H' s') : Fz C.X s.heap s'.heap := fun a o e f => (k a o (R.notin e f) e).1
theorem Rel.lt {C : Cfg} {H : AH} {s : Shared} (R : Rel C H s) {a : Addr} (h : a ∈ keys H) : a < s.heap.objs.size := by
  obtain ⟨p, hp, rfl⟩ := List.mem_map.mp h
  obtain ⟨o', e', _⟩ := (R.objs p hp).live
  exact Heap.lt_size e'
theorem Rel.newAddr {C : Cfg} {H : AH} {s : Shared} (R : Rel C H s) : s.heap.objs.size ∉ keys H := fun h => Nat.lt_irrefl _ (R.lt h)
theorem Rel.baseNew {C : Cfg} {H : AH} {s : Shared} (R : Rel C H s) {a : Addr} (h : s.heap.objs.size ≤ a) : C.B.get? a = none := by
  cases e : C.B.get? a with
  | none => rfl
  | some o => exact absurd (Heap.lt_size (R.keep a o e)) (Nat.not_lt.mpr h)

theorem fz_of_ext {X : List Addr} {h h' : Heap} (k : ∀ b o, h.get? b = some o → h'.get? b = some o) : Fz X h h' := fun a o e zz => k a o e

theorem Rel.ext {C : Cfg} {H : AH} {s : Shared} (R : Rel C H s) {h' : Heap} {t : Tok} (k : ∀ b o, s.heap.get? b = some o → h'.get? b = some o) : Rel C H { s with heap := h', toks := t } where
  keep := fun b o e => k b o (R.keep b o e)
  gens := R.gens
  os := R.os
  nd := R.nd
  fresh := R.fresh
  objs := fun p hp => (R.objs p hp).move (fz_of_ext k) fun o e => k _ o e
  xl := fun a ha => let ⟨n, o, e⟩ := R.xl a ha; ⟨n, o, k _ _ e⟩
theorem kept_of_ext {H : AH} {s : Shared} {h' : Heap} {t : Tok} (k : ∀ b o, s.heap.get? b = some o → h'.get? b = some o) : Kept H s H { s with heap := h', toks := t } :=
  fun b o n e => ⟨k b o e, n⟩
theorem Rel.toks {C : Cfg} {H : AH} {s : Shared} (R : Rel C H s) (t : Tok) : Rel C H { s with toks := t } := R.ext fun zz zz e => e
theorem kept_toks {H : AH} {s : Shared} {t : Tok} : Kept H s H { s with toks := t } := fun b o n e => ⟨e, n⟩

theorem Rel.add {C : Cfg} {H : AH} {s : Shared} (R : Rel C H s) {h' : Heap} {t : Tok} {a : Addr} {x : AO} (k : ∀ b o, s.heap.get? b = some o → h'.get? b = some o) (ha : s.heap.objs.size ≤ a) (hx : ORel C.X h' a x) :
    Rel C ((a, x) :: H) { s with heap := h', toks := t } where
  keep := fun b o e => k b o (R.keep b o e)
  gens := R.gens
  os := R.os
  nd := List.nodup_cons.mpr ⟨fun h => absurd (R.lt h) (Nat.not_lt.mpr ha), R.nd⟩
  fresh := fun p hp => by
    rcases List.mem_cons.mp hp with rfl | hp
    · exact R.baseNew ha
    · exact R.fresh p hp
  objs := fun p hp => by
    rcases List.mem_cons.mp hp with rfl | hp
    · exact hx
    · exact (R.objs p hp).move (fz_of_ext k) fun o e => k _ o e
  xl := fun b hb => by
    obtain ⟨n, o, e⟩ := R.xl b hb
    refine ⟨fun h => ?_, o, k _ _ e⟩
    rcases List.mem_cons.mp h with rfl | h
    · exact absurd (Heap.lt_size e) (Nat.not_lt.mpr ha)
    · exact n h
theorem kept_add {H : AH} {s : Shared} {h' : Heap} {t : Tok} {a : Addr} {x : AO} (k : ∀ b o, s.heap.get? b = some o → h'.get? b = some o) (ha : s.heap.objs.size ≤ a) :
    Kept H s ((a, x) :: H) { s with heap := h', toks := t } := fun b o n e => ⟨k b o e, fun h => by
  rcases List.mem_cons.mp h with rfl | h
  · exact absurd (Heap.lt_size e) (Nat.not_lt.mpr ha)
  · exact n h⟩

inductive Upd (a : Addr) (x y : AO) : AH → AH → Prop
  | head {r} : Upd a x y ((a, x) :: r) ((a, y) :: r)
  | tail {p r r'} : Upd a x y r r' → Upd a x y (p :: r) (p :: r')
theorem Upd.mem {a : Addr} {x y : AO} {H H' : AH} (u : Upd a x y H H') : (a, x) ∈ H := by
  induction u with
  | head => exact .head _
  | tail _ ih => exact .tail _ ih
theorem Upd.keys {a : Addr} {x y : AO} {H H' : AH} (u : Upd a x y H H') : Mine.Internal.keys H' = Mine.Internal.keys H := by
  induction u with
  | head => rfl
  | tail _ ih => simp only [Mine.Internal.keys, List.map_cons] at ih ⊢; rw [ih]
theorem Upd.mem' {a : Addr} {x y : AO} {H H' : AH} (u : Upd a x y H H') : ∀ p ∈ H', p = (a, y) ∨ p ∈ H := by
  induction u with
  | head => intro p hp; rcases List.mem_cons.mp hp with rfl | hp; exact .inl rfl; exact .inr (.tail _ hp)
  | tail _ ih => intro p hp; rcases List.mem_cons.mp hp with rfl | hp; exact .inr (.head _); exact (ih p hp).imp id (.tail _)
theorem Upd.of_key {a : Addr} {x y : AO} {H H' : AH} (u : Upd a x y H H') (nd : (Mine.Internal.keys H).Nodup) : ∀ p ∈ H', p.1 = a → p = (a, y) := by
  induction u with
  | head =>
    intro p hp e
    rcases List.mem_cons.mp hp with rfl | hp
    · rfl
    · exact absurd (e ▸ List.mem_map_of_mem (f := Prod.fst) hp : a ∈ List.map Prod.fst _) (List.nodup_cons.mp nd).1
  | tail u ih =>
    intro p hp e
    obtain ⟨h1, h2⟩ := List.nodup_cons.mp nd
    rcases List.mem_cons.mp hp with rfl | hp
    · exact absurd (show p.1 ∈ List.map Prod.fst _ from e ▸ List.mem_map_of_mem (f := Prod.fst) u.mem) h1
    · exact ih h2 p hp e
theorem Rel.upd {C : Cfg} {H H' : AH} {s : Shared} (R : Rel C H s) {h' : Heap} {t : Tok} {a : Addr} {x y : AO} (u : Upd a x y H H') (k : ∀ b o, b ≠ a → s.heap.get? b = some o → h'.get? b = some o) (hy : ORel C.X h' a y) :
    Rel C H' { s with heap := h', toks := t } ∧ Kept H s H' { s with heap := h', toks := t } := by
  have ha : a ∈ keys H := List.mem_map_of_mem u.mem
  have hf : Fz C.X s.heap h' := fun b o e f => k b o (fun q => R.notin e f (q ▸ ha)) e
  refine ⟨⟨fun b o e => k b o (fun q => ?_) (R.keep b o e), R.gens, R.os, by rw [u.keys]; exact R.nd, fun p hp => ?_, fun p hp => ?_, fun b hb => ?_⟩, fun b o n e => ⟨k b o (fun q => n (q ▸ ha)) e, by rw [u.keys]; exact n⟩⟩
  · have := R.fresh _ u.mem
    rw [q] at e; rw [this] at e; cases e
  · rcases u.mem' p hp with rfl | hp
    · exact (R.fresh _ u.mem : C.B.get? a = none)
    · exact R.fresh p hp
  · by_cases q : p.1 = a
    · rw [u.of_key R.nd p hp q]; exact hy
    · rcases u.mem' p hp with rfl | hp'
      · exact absurd rfl q
      · exact (R.objs p hp').move hf fun o e => k _ o q e
  · obtain ⟨n, o, e⟩ := R.xl b hb
    exact ⟨by rw [u.keys]; exact n, o, k b o (fun q => n (q ▸ ha)) e⟩
inductive Pick (p : Addr × AO) : AH → AH → Prop
  | head {r} : Pick p (p :: r) r
  | tail {q r r'} : Pick p r r' → Pick p (q :: r) (q :: r')
inductive Sub : AH → AH → Prop
  | refl (H : AH) : Sub H H
  | drop {q A B} : Sub A B → Sub A (q :: B)
  | pick {p A B B'} : Pick p B B' → Sub A B' → Sub (p :: A) B
theorem Pick.perm {p : Addr × AO} {H H' : AH} (x : Pick p H H') : H.Perm (p :: H') := by
  induction x with
  | head => exact .refl _
  | tail _ ih => exact (ih.cons _).trans (List.Perm.swap ..)
theorem Sub.perm {H H' : AH} (x : Sub H' H) : ∃ R, H.Perm (H' ++ R) := by
  induction x with
  | refl H => exact ⟨[], by simp⟩
  | drop _ ih =>
    obtain ⟨R, h⟩ := ih
    exact ⟨_ :: R, (h.cons _).trans List.perm_middle.symm⟩
  | pick p _ ih =>
    obtain ⟨R, h⟩ := ih
    exact ⟨R, p.perm.trans (h.cons _)⟩
theorem Sub.mem {H H' : AH} (x : Sub H' H) : ∀ p ∈ H', p ∈ H := fun p hp => by
  obtain ⟨R, h⟩ := x.perm
  exact h.mem_iff.mpr (List.mem_append_left _ hp)
theorem Sub.kmem {H H' : AH} (x : Sub H' H) {a : Addr} (h : a ∈ keys H') : a ∈ keys H := by
  obtain ⟨p, hp, rfl⟩ := List.mem_map.mp h
  exact List.mem_map_of_mem (x.mem p hp)
theorem Sub.nd {H H' : AH} (x : Sub H' H) (nd : (keys H).Nodup) : (keys H').Nodup := by
  obtain ⟨R, h⟩ := x.perm
  have h2 := (h.map Prod.fst).nodup_iff.mp nd
  rw [List.map_append] at h2
  exact (List.nodup_append.mp h2).1
theorem Rel.sub {C : Cfg} {H H' : AH} {s : Shared} (R : Rel C H s) (x : Sub H' H) : Rel C H' s where
  keep := R.keep
  gens := R.gens
  os := R.os
  nd := x.nd R.nd
  fresh := fun p hp => R.fresh p (x.mem p hp)
  objs := fun p hp => R.objs p (x.mem p hp)
  xl := fun a ha => let ⟨n, e⟩ := R.xl a ha; ⟨fun h => n (x.kmem h), e⟩
theorem Kept.sub {H H' H'' : AH} {s s' : Shared} (k : Kept H s H' s') (x : Sub H'' H') : Kept H s H'' s' := fun b o n e =>
  let ⟨a, b'⟩ := k b o n e; ⟨a, fun h => b' (x.kmem h)⟩

noncomputable def WP (C : Cfg) (A : Around) {α β : Type} (T : Heap → β → α → Prop) (t : Sem α) (Q : β → AH → Prop) (H : AH) : Prop :=
  ∀ s, Rel C H s → wpAny (model C.prog C.w) A t (fun v s' => ∃ x H', Q x H' ∧ T s'.heap x v ∧ Rel C H' s' ∧ Kept H s H' s') (fun zz zz => False) s

inductive Fl where
  | next | brk | cont | ret (v : V)
noncomputable def FRel (X : List Addr) (h : Heap) : Fl → Flow → Prop
  | .next, f => f = .next
  | .brk, f => f = .brk
  | .cont, f => f = .cont
  | .ret v, f => ∃ w, f = .ret w ∧ VRel X h v w
noncomputable def BRel (_ : Heap) (a b : Bool) : Prop := b = a
noncomputable def URel (_ : Heap) (_ _ : Unit) : Prop := True

theorem Post.el {C : Cfg} {α β : Type} {T : Heap → β → α → Prop} {Q : β → AH → Prop} {H : AH} {s s' : Shared} {v : α} {G : Prop} (p : ∃ x H', Q x H' ∧ T s'.heap x v ∧ Rel C H' s' ∧ Kept H s H' s') (f : ∀ x H', Q x H' → T s'.heap x v → Rel C H' s' → Kept H s H' s' → G) : G :=
  let ⟨x, H', q, r, R, k⟩ := p; f x H' q r R k
section
variable {C : Cfg} {A : Around} {α β : Type} {T : Heap → β → α → Prop} {t : Sem α} {Q Q' : β → AH → Prop} {H H' : AH}
theorem WP.mono (h : WP C A T t Q H) (k : ∀ x H', Q x H' → Q' x H') : WP C A T t Q' H := fun s R =>
  wpAny_mono (h s R) (fun _ _ ⟨x, H', q, r⟩ => ⟨x, H', k _ _ q, r⟩) fun zz zz e => e
theorem WP.sub (x : Sub H' H) (h : WP C A T t Q H') : WP C A T t Q H := fun s R =>
  wpAny_mono (h s (R.sub x)) (fun _ _ ⟨u, H₁, q, r, R', k⟩ => ⟨u, H₁, q, r, R', fun b o n e => k b o (fun h => n (x.kmem h)) e⟩) fun zz zz e => e
end
end
set_option genInjectivity false
noncomputable section
section
variable {C : Cfg} {A : Around} {α β : Type} {T : Heap → β → α → Prop} {s : Shared} {x : β} {v : α} {Q : β → AH → Prop} {H : AH}
theorem post_ext {h' : Heap} {tk : Tok} (R : Rel C H s) (k : ∀ b o, s.heap.get? b = some o → h'.get? b = some o) (r : T h' x v) (q : Q x H) :
    ∃ x H', Q x H' ∧ T h' x v ∧ Rel C H' { s with heap := h', toks := tk } ∧ Kept H s H' { s with heap := h', toks := tk } := ⟨x, H, q, r, R.ext k, kept_of_ext k⟩
theorem post_tk {tk : Tok} (R : Rel C H s) (r : T s.heap x v) (q : Q x H) :
    ∃ x H', Q x H' ∧ T s.heap x v ∧ Rel C H' { s with toks := tk } ∧ Kept H s H' { s with toks := tk } := ⟨x, H, q, r, R.toks tk, kept_toks⟩
theorem post_id (R : Rel C H s) (r : T s.heap x v) (q : Q x H) : ∃ x H', Q x H' ∧ T s.heap x v ∧ Rel C H' s ∧ Kept H s H' s := ⟨x, H, q, r, R, Kept.refl _ _⟩
theorem post_then {s₁ : Shared} {H₁ : AH} {Q' : β → AH → Prop} (k : Kept H s H₁ s₁) {s₂ : Shared} {v : α}
    (h : ∃ x H', Q' x H' ∧ T s₂.heap x v ∧ Rel C H' s₂ ∧ Kept H₁ s₁ H' s₂) : ∃ x H', Q' x H' ∧ T s₂.heap x v ∧ Rel C H' s₂ ∧ Kept H s H' s₂ :=
  let ⟨x, H', a, b, c, d⟩ := h; ⟨x, H', a, b, c, k.trans d⟩
end

noncomputable abbrev Post (C : Cfg) {α β : Type} (T : Heap → β → α → Prop) (Q : β → AH → Prop) (H : AH) (s : Shared) : α → Shared → Prop :=
  fun v s' => ∃ x H', Q x H' ∧ T s'.heap x v ∧ Rel C H' s' ∧ Kept H s H' s'
noncomputable abbrev NoE : Value → Shared → Prop := fun zz zz => False


noncomputable def Op1 (C : Cfg) (A : Around) {α β : Type} (T : Heap → β → α → Prop) (f : Value → Sem α) (x : V) (Q : β → AH → Prop) (H : AH) : Prop :=
  ∀ v s, VRel C.X s.heap x v → Rel C H s → wpAny (model C.prog C.w) A (f v) (Post C T Q H s) NoE s
noncomputable def Op2 (C : Cfg) (A : Around) {α β : Type} (T : Heap → β → α → Prop) (f : Value → Value → Sem α) (x y : V) (Q : β → AH → Prop) (H : AH) : Prop :=
  ∀ v w s, VRel C.X s.heap x v → VRel C.X s.heap y w → Rel C H s → wpAny (model C.prog C.w) A (f v w) (Post C T Q H s) NoE s

section
variable {C : Cfg} {A : Around} {env : Env} {H : AH} {Q : V → AH → Prop}


theorem wp_BinOp {l r : Expr} {op : Operator} {pos : Pos} (h : WP C A (VRel C.X) (eval l env) (fun x H₁ => WP C A (VRel C.X) (eval r env) (fun y H₂ => Op2 C A (VRel C.X) (binaryOp op) x y Q H₂) H₁) H) :
    WP C A (VRel C.X) (eval (.BinOp l op r pos) env) Q H := fun s R =>
  wpAny_BinOp (wpAny_mono (h s R) (fun v s₁ p2 => Post.el p2 fun x H₁ q rv R₁ k => wpAny_mono (q s₁ R₁) (fun w s₂ p3 => Post.el p3 fun y H₂ q₂ rw R₂ k₂ => 
    wpAny_mono (q₂ v w s₂ (rv.fz (k₂.fz R₁)) rw R₂) (fun zz zz p => post_then k (post_then k₂ p)) fun zz zz e => e) fun zz zz e => e) fun zz zz e => e)
theorem wp_Compare {l r : Expr} {op : CmpOp} {pos : Pos} (h : WP C A (VRel C.X) (eval l env) (fun x H₁ => WP C A (VRel C.X) (eval r env) (fun y H₂ => Op2 C A (VRel C.X) (compareOp op) x y Q H₂) H₁) H)
    (hm : behindInMarks op r = false := by with_unfolding_all rfl) :
    WP C A (VRel C.X) (eval (.Compare l [op] [r] pos) env) Q H := fun s R =>
  wpAny_Compare1 (hm := hm) (wpAny_mono (h s R) (fun v s₁ p4 => Post.el p4 fun x H₁ q rv R₁ k => wpAny_mono (q s₁ R₁) (fun w s₂ p5 => Post.el p5 fun y H₂ q₂ rw R₂ k₂ => 
    wpAny_mono (q₂ v w s₂ (rv.fz (k₂.fz R₁)) rw R₂) (fun zz zz p => post_then k (post_then k₂ p)) fun zz zz e => e) fun zz zz e => e) fun zz zz e => e)
theorem wp_UnaryOp {l : Expr} {op : UnaryOp} {pos : Pos} (h : WP C A (VRel C.X) (eval l env) (fun x H₁ => Op1 C A (VRel C.X) (unaryOp op) x Q H₁) H) :
    WP C A (VRel C.X) (eval (.UnaryOp op l pos) env) Q H := fun s R =>
  wpAny_UnaryOp (wpAny_mono (h s R) (fun v s₁ p6 => Post.el p6 fun zz zz q rv R₁ k => wpAny_mono (q v s₁ rv R₁) (fun zz zz p => post_then k p) fun zz zz e => e) fun zz zz e => e)

noncomputable abbrev WPB (C : Cfg) (A : Around) (env : Env) (e : Expr) (Q : Bool → AH → Prop) (H : AH) : Prop := WP C A BRel (isTrue e env (eval e env)) Q H

theorem wp_IfExp {c a b : Expr} {pos : Pos} (h : WPB C A env c (fun t H₁ => (t = true → WP C A (VRel C.X) (eval a env) Q H₁) ∧ (t = false → WP C A (VRel C.X) (eval b env) Q H₁)) H) :
    WP C A (VRel C.X) (eval (.IfExp c a b pos) env) Q H := fun s R =>
  wpAny_IfExp (wpAny_mono (h s R) (fun t s₁ p7 => Post.el p7 fun t' zz q rt R₁ k => by
    cases rt
    cases t
    · exact wpAny_mono (q.2 rfl s₁ R₁) (fun zz zz p => post_then k p) fun zz zz e => e
    · exact wpAny_mono (q.1 rfl s₁ R₁) (fun zz zz p => post_then k p) fun zz zz e => e) fun zz zz e => e)

variable {QB : Bool → AH → Prop} {QF : Fl → AH → Prop}
theorem wpb_Compare {l r : Expr} {op : CmpOp} {pos : Pos} (h : WP C A (VRel C.X) (eval l env) (fun x H₁ => WP C A (VRel C.X) (eval r env) (fun y H₂ => Op2 C A (VRel C.X) (compareOp op) x y (fun z H₃ => Op1 C A BRel truthy z QB H₃) H₂) H₁) H)
    (hm : behindInMarks op r = false := by with_unfolding_all rfl) :
    WPB C A env (.Compare l [op] [r] pos) QB H := fun s R =>
  wpAny_isTrue_Compare1 (hm := hm) (wpAny_mono (h s R) (fun v s₁ p8 => Post.el p8 fun x H₁ q rv R₁ k => wpAny_mono (q s₁ R₁) (fun w s₂ p9 => Post.el p9 fun y H₂ q₂ rw R₂ k₂ => 
    wpAny_mono (q₂ v w s₂ (rv.fz (k₂.fz R₁)) rw R₂) (fun c s₃ p10 => Post.el p10 fun z H₃ q₃ rz R₃ k₃ => wpAny_mono (q₃ c s₃ rz R₃) (fun zz zz p => post_then k (post_then k₂ (post_then k₃ p))) fun zz zz e => e) fun zz zz e => e) fun zz zz e => e) fun zz zz e => e)
theorem wpb_Not {l : Expr} {pos : Pos} (h : WPB C A env l (fun t H₁ => QB (!t) H₁) H) : WPB C A env (.UnaryOp .Not l pos) QB H := fun s R =>
  wpAny_isTrue_Not (wpAny_mono (h s R) (fun t s₁ p11 => Post.el p11 fun t' H₁ q rt R₁ k => by cases rt; exact ⟨_, H₁, q, rfl, R₁, k⟩) fun zz zz e => e)
theorem wpb_value {e : Expr} (h : WP C A (VRel C.X) (eval e env) (fun x H₁ => Op1 C A BRel truthy x QB H₁) H)
    (he : ∀ whole, isTrue e env whole = (do let v ← whole; standAt e.pos; holding [v] (truthy v)) := by intro _; with_unfolding_all rfl) : WPB C A env e QB H := fun s R =>
  wpAny_isTrue_value (wpAny_mono (h s R) (fun v s₁ p12 => Post.el p12 fun zz zz q rv R₁ k => wpAny_mono (q v s₁ rv R₁) (fun zz zz p => post_then k p) fun zz zz e => e) fun zz zz e => e) (he _)
theorem wpb_Name {x : Str} {pos : Pos} (h : WP C A (VRel C.X) (eval (.Name x pos) env) (fun x H₁ => Op1 C A BRel truthy x QB H₁) H) : WPB C A env (.Name x pos) QB H := wpb_value h
theorem wpb_Attribute {o : Expr} {x : Str} {pos : Pos} (h : WP C A (VRel C.X) (eval (.Attribute o x pos) env) (fun x H₁ => Op1 C A BRel truthy x QB H₁) H) : WPB C A env (.Attribute o x pos) QB H := wpb_value h
theorem wpb_Subscript {o i : Expr} {pos : Pos} (h : WP C A (VRel C.X) (eval (.Subscript o i pos) env) (fun x H₁ => Op1 C A BRel truthy x QB H₁) H) : WPB C A env (.Subscript o i pos) QB H := wpb_value h
theorem wpb_Call {f : Expr} {as : List Expr} {ks : List Keyword} {pos : Pos} (h : WP C A (VRel C.X) (eval (.Call f as ks pos) env) (fun x H₁ => Op1 C A BRel truthy x QB H₁) H) : WPB C A env (.Call f as ks pos) QB H := wpb_value h
theorem wpb_BinOp {l r : Expr} {op : Operator} {pos : Pos} (h : WP C A (VRel C.X) (eval (.BinOp l op r pos) env) (fun x H₁ => Op1 C A BRel truthy x QB H₁) H) : WPB C A env (.BinOp l op r pos) QB H := wpb_value h
theorem wpb_BoolOp {op : BoolOp} {vs : List Expr} {pos : Pos} (h : WP C A BRel (allTrue op vs env) QB H) : WPB C A env (.BoolOp op vs pos) QB H := fun s R => wpAny_isTrue_BoolOp (h s R)
theorem wp_allAnd_nil (h : QB true H) : WP C A BRel (allTrue .And [] env) QB H := fun zz R => wpAny_allTrue_And_nil (post_id R rfl h)
theorem wp_allOr_nil (h : QB false H) : WP C A BRel (allTrue .Or [] env) QB H := fun zz R => wpAny_allTrue_Or_nil (post_id R rfl h)
theorem wp_allAnd_cons {x : Expr} {rest : List Expr} (h : WPB C A env x (fun t H₁ => (t = true → WP C A BRel (allTrue .And rest env) QB H₁) ∧ (t = false → QB false H₁)) H) : WP C A BRel (allTrue .And (x :: rest) env) QB H := fun s R =>
  wpAny_allTrue_And_cons (wpAny_mono (h s R) (fun t s₁ p13 => Post.el p13 fun t' H₁ q rt R₁ k => by
    cases rt
    cases t
    · exact ⟨_, H₁, q.2 rfl, rfl, R₁, k⟩
    · exact wpAny_mono (q.1 rfl s₁ R₁) (fun zz zz p => post_then k p) fun zz zz e => e) fun zz zz e => e)
theorem wp_allOr_cons {x : Expr} {rest : List Expr} (h : WPB C A env x (fun t H₁ => (t = true → QB true H₁) ∧ (t = false → WP C A BRel (allTrue .Or rest env) QB H₁)) H) : WP C A BRel (allTrue .Or (x :: rest) env) QB H := fun s R =>
  wpAny_allTrue_Or_cons (wpAny_mono (h s R) (fun t s₁ p14 => Post.el p14 fun t' H₁ q rt R₁ k => by
    cases rt
    cases t
    · exact wpAny_mono (q.2 rfl s₁ R₁) (fun zz zz p => post_then k p) fun zz zz e => e
    · exact ⟨_, H₁, q.1 rfl, rfl, R₁, k⟩) fun zz zz e => e)

-- statements
noncomputable abbrev WPS (C : Cfg) (A : Around) (env : Env) (b : List Stmt) (Q : Fl → AH → Prop) (H : AH) : Prop := WP C A (FRel C.X) (execs b env) Q H
noncomputable abbrev WP1 (C : Cfg) (A : Around) (env : Env) (b : Stmt) (Q : Fl → AH → Prop) (H : AH) : Prop := WP C A (FRel C.X) (exec b env) Q H

theorem wps_nil (h : QF .next H) : WPS C A env [] QF H := fun zz R => wpAny_execs_nil (post_id (x := Fl.next) R (by rfl) h)
noncomputable def Behind (C : Cfg) (A : Around) (env : Env) (rest : List Stmt) (Q : Fl → AH → Prop) : Fl → AH → Prop
  | .next, H => WPS C A env rest Q H
  | f, H => Q f H
theorem wps_cons {st : Stmt} {rest : List Stmt} (h : WP1 C A env st (Behind C A env rest QF) H) : WPS C A env (st :: rest) QF H := fun s R =>
  wpAny_execs_cons (wpAny_mono (h s R) (fun f s₁ p15 => Post.el p15 fun f' H₁ q rf R₁ k => by
    cases f' with
    | next => cases rf; exact wpAny_mono (q s₁ R₁) (fun zz zz p => post_then k p) fun zz zz e => e
    | brk => cases rf; exact ⟨.brk, H₁, q, rfl, R₁, k⟩
    | cont => cases rf; exact ⟨.cont, H₁, q, rfl, R₁, k⟩
    | ret v => obtain ⟨w, rfl, rv⟩ := rf; exact ⟨.ret v, H₁, q, ⟨w, rfl, rv⟩, R₁, k⟩) fun zz zz e => e)
theorem wps_next {rest : List Stmt} (h : WPS C A env rest QF H) : Behind C A env rest QF .next H := h

theorem wp1_Return {e : Expr} {pos : Pos} (h : WP C A (VRel C.X) (eval e env) (fun x H₁ => QF (.ret x) H₁) H) : WP1 C A env (.Return (some e) pos) QF H := fun s R =>
  wpAny_Return_some (wpAny_mono (h s R) (fun v s₁ p16 => Post.el p16 fun x H₁ q rv R₁ k => ⟨.ret x, H₁, q, ⟨v, rfl, rv⟩, R₁, k⟩) fun zz zz e => e)
theorem wp1_Return_none {pos : Pos} (h : QF (.ret .none) H) : WP1 C A env (.Return none pos) QF H := fun zz R =>
  wpAny_Return_none ⟨.ret .none, H, h, ⟨.none, rfl, by simp only [VRel]⟩, R, Kept.refl _ _⟩
theorem wp1_Continue {pos : Pos} (h : QF .cont H) : WP1 C A env (.Continue pos) QF H := fun zz R => wpAny_Continue (post_id (x := Fl.cont) R (by rfl) h)
theorem wp1_If {c : Expr} {a b : List Stmt} {pos : Pos} (h : WPB C A env c (fun t H₁ => (t = true → WPS C A env a QF H₁) ∧ (t = false → WPS C A env b QF H₁)) H) :
    WP1 C A env (.If c a b pos) QF H := fun s R =>
  wpAny_If (wpAny_mono (h s R) (fun t s₁ p17 => Post.el p17 fun t' zz q rt R₁ k => by
    cases rt
    cases t
    · exact wpAny_mono (q.2 rfl s₁ R₁) (fun zz zz p => post_then k p) fun zz zz e => e
    · exact wpAny_mono (q.1 rfl s₁ R₁) (fun zz zz p => post_then k p) fun zz zz e => e) fun zz zz e => e)
noncomputable def NoneOf (x : V) (P : Prop) : Prop := x = .none ∧ P
theorem noneOf {P : Prop} (h : P) : NoneOf .none P := ⟨rfl, h⟩
noncomputable def IntOf (x : V) (P : Int → Prop) : Prop := ∃ i, x = .int i ∧ P i
theorem intOf {i : Int} {P : Int → Prop} (h : P i) : IntOf (.int i) P := ⟨i, rfl, h⟩
noncomputable def FewOf (xs : List V) (P : Prop) : Prop := xs.length ≤ 1000 ∧ P
theorem fewOf {xs : List V} {P : Prop} (h : P) (hz : xs.length ≤ 1000 := by first | decide | simp) : FewOf xs P := ⟨hz, h⟩
theorem wp1_Expr {e : Expr} {pos : Pos} (h : WP C A (VRel C.X) (eval e env) (fun x H₁ => NoneOf x (QF .next H₁)) H) (hi : interactive env = false := by with_unfolding_all rfl) (hs : swapsWith e none pos.line env = pure false := by with_unfolding_all rfl) :
    WP1 C A env (.Expr e pos) QF H := fun s R =>
  wpAny_Expr (hi := hi) (hs := hs) (wpAny_mono (h s R) (fun v s₁ p18 => Post.el p18 fun x H₁ p19 rv R₁ k => p19.elim fun hx q => by subst hx; simp only [VRel] at rv; subst rv; exact ⟨.next, H₁, q, rfl, R₁, k⟩) fun zz zz e => e)

-- values of ints
theorem op_add_int {a b : Int} (q : Q (.int (a + b)) H) : Op2 C A (VRel C.X) (binaryOp .Add) (.int a) (.int b) Q H := fun v w s hv hw R => by
  simp only [VRel] at hv hw; obtain ⟨t, rfl⟩ := hv; obtain ⟨u, rfl⟩ := hw
  exact PyProof.Rows.add_int (post_tk (s := s) (x := V.int _) R ⟨_, rfl⟩ q)
end
end
noncomputable section
structure Cfg.Ok (C : Cfg) (gl : List (Str × V)) : Prop where
  kin : C.K.In C.B
  g : C.B.Ns mainGlobals C.mg
  b : C.B.Ns builtinsNs C.mb
  nolimit : C.B.NoLimit
  gl : ∀ p ∈ gl, ∃ v, VRel C.X C.B p.2 v ∧ (C.mg p.1 = some v ∨ (C.mg p.1 = none ∧ C.mb p.1 = some v))
  bmain : ∃ bm ob, C.mg "__builtins__" = some (.ref bm) ∧ bm ≠ builtinsNs ∧ C.B.get? bm = some ob ∧ ob.cls = .type "module" ∧ ob.dict = some builtinsNs ∧ ob.data = .plain

theorem fz_of_keep {X : List Addr} {h h' : Heap} (k : ∀ b o, h.get? b = some o → h'.get? b = some o) : Fz X h h' := fun a o e zz => k a o e

structure FEnv (env : Env) (L : Addr) (ln : List Str) (cn : List (Str × Addr)) (gn : List Str) : Prop where
  kind : env.scope.kind = .function
  loc : env.locals = L
  glob : env.globals = mainGlobals
  blt : env.builtins = builtinsNs
  hl : ∀ x ∈ ln, env.kindOf x = some .local ∧ (x == ("__debug__" : Str)) = false
  hc : ∀ p ∈ cn, (env.kindOf p.1 = some .cell ∨ env.kindOf p.1 = some .free) ∧ env.cells.lookup p.1 = some p.2 ∧ (p.1 == ("__debug__" : Str)) = false ∧ (p.1 == ("__classdict__" : Str)) = false
  hg : ∀ x ∈ gn, env.kindOf x = some .globalImplicit ∧ (x == ("__debug__" : Str)) = false

section
variable {C : Cfg} {gl : List (Str × V)} {A : Around} {env : Env} {L : Addr} {ln : List Str} {cn : List (Str × Addr)} {gn : List Str} {vals vals' : List (Option V)} {x : Str} {v : V} {pos : Pos} {c : Addr} {H H' : AH} {Q : V → AH → Prop}

theorem wp_local (FE : FEnv env L ln cn gn) {H : AH} {Q : V → AH → Prop} (hL : (L, AO.ns ln vals) ∈ H) (ha : At ln vals x v) (q : Q v H) : WP C A (VRel C.X) (eval (.Name x pos) env) Q H := fun s R => by
  obtain ⟨nd, m, hn, hr⟩ := R.objs _ hL
  obtain ⟨w, hw, rw⟩ := ha.get hr
  obtain ⟨h1, h2⟩ := FE.hl x ha.mem
  refine wpAny_Name (wpAny_loadName_local FE.kind h1 (FE.loc ▸ hn) hw (post_id R rw q)) h2
theorem load_local (FE : FEnv env L ln cn gn) {H : AH} {Q : V → AH → Prop} (hL : (L, AO.ns ln vals) ∈ H) (ha : At ln vals x v) (q : Q v H) : WP C A (VRel C.X) (loadName env x) Q H := fun s R => by
  obtain ⟨nd, m, hn, hr⟩ := R.objs _ hL
  obtain ⟨w, hw, rw⟩ := ha.get hr
  obtain ⟨h1, h2⟩ := FE.hl x ha.mem
  exact wpAny_loadName_local FE.kind h1 (FE.loc ▸ hn) hw (post_id R rw q)
theorem load_cell (FE : FEnv env L ln cn gn) {H : AH} {Q : V → AH → Prop} (hx : (x, c) ∈ cn) (hc : (c, AO.cell (some v)) ∈ H) (q : Q v H) : WP C A (VRel C.X) (loadName env x) Q H := fun s R => by
  obtain ⟨y, hy, k⟩ := R.objs _ hc
  obtain ⟨w, rfl, rw⟩ := k v rfl
  obtain ⟨h1, h2, h3, h4⟩ := FE.hc _ hx
  rcases h1 with h1 | h1
  · exact wpAny_loadName_cell FE.kind h1 h2 hy (post_id R rw q)
  · exact wpAny_loadName_free FE.kind h1 h2 hy (post_id R rw q) h4
theorem wp_cell (FE : FEnv env L ln cn gn) {H : AH} {Q : V → AH → Prop} (hx : (x, c) ∈ cn) (hc : (c, AO.cell (some v)) ∈ H) (q : Q v H) : WP C A (VRel C.X) (eval (.Name x pos) env) Q H := fun s R =>
  wpAny_Name (load_cell FE hx hc q s R) (FE.hc _ hx).2.2.1
theorem wp_glob (G : C.Ok gl) (FE : FEnv env L ln cn gn) {H : AH} {Q : V → AH → Prop} (hg : (x, v) ∈ gl) (hx : x ∈ gn) (q : Q v H) : WP C A (VRel C.X) (eval (.Name x pos) env) Q H := fun s R => by
  obtain ⟨w, rw, hw⟩ := G.gl _ hg
  obtain ⟨h1, h2⟩ := FE.hg x hx
  have rw' := rw.fz (fz_of_keep R.keep)
  refine Name_function_global FE.kind h1 ?_ h2
  have hG : s.heap.Ns env.globals C.mg := by rw [FE.glob]; exact G.g.keeps R.keep
  have hB : s.heap.Ns env.builtins C.mb := by rw [FE.blt]; exact G.b.keeps R.keep
  rcases hw with hw | ⟨hw, hw'⟩
  · exact loadGlobal_global hG hw (post_id R rw' q)
  · exact loadGlobal_builtin hG hw hB hw' (post_id R rw' q)

variable {QU : Unit → AH → Prop} {QF : Fl → AH → Prop}
theorem store_local (FE : FEnv env L ln cn gn) {H H' : AH} {QU : Unit → AH → Prop} (hu : Upd L (.ns ln vals) (.ns ln vals') H H') (hp : Put ln vals x v vals') (q : QU () H') : Op1 C A URel (storeName env x) v QU H := fun w s rw R => by
  obtain ⟨nd, m, hn, hr⟩ := R.objs _ hu.mem
  obtain ⟨h1, h2⟩ := FE.hl x hp.mem
  have hLk : L ∈ keys H := List.mem_map_of_mem (f := Prod.fst) hu.mem
  refine wpAny_storeName_local h1 (FE.loc ▸ hn) (fun h' hn' hs' => ?_) (by rw [FE.kind]; rfl)
  rw [FE.loc] at hn' hs'
  have hf : Fz C.X s.heap h' := fun a o e f => hs'.extBut a o (fun q => R.notin e f (q ▸ hLk)) e
  obtain ⟨R', k'⟩ := R.upd hu (h' := h') (t := s.toks + 1) (fun b o n e => hs'.extBut b o n e) ⟨nd, _, hn', (hp.rel rw nd hr).fz hf⟩
  exact ⟨(), H', q, trivial, R', k'⟩
theorem store_cell (FE : FEnv env L ln cn gn) {o : Option V} {H H' : AH} {QU : Unit → AH → Prop} (hx : (x, c) ∈ cn) (hu : Upd c (.cell o) (.cell (some v)) H H') (q : QU () H') : Op1 C A URel (storeName env x) v QU H := fun w s rw R => by
  obtain ⟨y, hy, k⟩ := R.objs _ hu.mem
  obtain ⟨h1, h2, h3, h4⟩ := FE.hc _ hx
  have hck : c ∈ keys H := List.mem_map_of_mem (f := Prod.fst) hu.mem
  have fin : ∀ h' tk, h'.IsCell c (some w) → Heap.SameBut c s.heap h' → ∃ x H'', QU x H'' ∧ URel h' x () ∧ Rel C H'' { s with heap := h', toks := tk } ∧ Kept H s H'' { s with heap := h', toks := tk } := fun h' tk hc' hs' => by
    have hf : Fz C.X s.heap h' := fun a o e f => hs'.extBut a o (fun q => R.notin e f (q ▸ hck)) e
    obtain ⟨R', k'⟩ := R.upd hu (h' := h') (t := tk) (fun b o n e => hs'.extBut b o n e) ⟨some w, hc', fun z hz => by cases hz; exact ⟨w, rfl, rw.fz hf⟩⟩
    exact ⟨(), H', q, trivial, R', k'⟩
  rcases h1 with h1 | h1
  · exact wpAny_storeName_cell FE.kind h1 h2 hy fun h' hc' hs' => fin h' _ hc' hs'
  · unfold storeName
    simp only [h1, FE.kind]
    exact wpAny_bind (wpAny_cellOf h2 (wpAny_cellSet hy fun h' hc' hs' => fin h' _ hc' hs'))

noncomputable abbrev WPA (C : Cfg) (A : Around) (env : Env) (t : Expr) (v : V) (Q : Unit → AH → Prop) (H : AH) : Prop := Op1 C A URel (assign t env) v Q H
theorem asg_Name (h : Op1 C A URel (storeName env x) v QU H) : WPA C A env (.Name x pos) v QU H := fun w s rw R => wpAny_assign_Name (h w s rw R)

theorem wp1_Assign_Name {value : Expr} {pos' : Pos} (h : WP C A (VRel C.X) (eval value env) (fun v H₁ => Op1 C A URel (storeName env x) v (fun zz H₂ => QF .next H₂) H₁) H)
    (hs : swapsWith value (some (.Name x pos')) pos.line env = pure false := by with_unfolding_all rfl) : WP1 C A env (.Assign [.Name x pos'] value pos) QF H := fun s R =>
  wpAny_Assign_Name (hs := hs) (wpAny_mono (h s R) (fun w s₁ p20 => Post.el p20 fun v H₁ q rw R₁ k => wpAny_mono (q w s₁ rw R₁) (fun zz zz p21 => Post.el p21 fun zz H₂ q₂ zz R₂ k₂ => ⟨.next, H₂, q₂, rfl, R₂, k.trans k₂⟩) fun zz zz e => e) fun zz zz e => e)
theorem wp1_Aug_Name {value : Expr} {pos' : Pos} {op : Operator} (h : WP C A (VRel C.X) (loadName env x) (fun u H₁ => WP C A (VRel C.X) (eval value env) (fun v H₂ => Op2 C A (VRel C.X) (inplaceOp op) u v (fun r H₃ => Op1 C A URel (storeName env x) r (fun zz H₄ => QF .next H₄) H₃) H₂) H₁) H) :
    WP1 C A env (.AugAssign (.Name x pos') op value pos) QF H := fun s R =>
  wpAny_AugAssign_Name (wpAny_mono (h s R) (fun u s₁ p22 => Post.el p22 fun u' H₁ q ru R₁ k => wpAny_mono (q s₁ R₁) (fun v s₂ p23 => Post.el p23 fun v' H₂ q₂ rv R₂ k₂ => 
    wpAny_mono (q₂ u v s₂ (ru.fz (k₂.fz R₁)) rv R₂) (fun r s₃ p24 => Post.el p24 fun r' H₃ q₃ rr R₃ k₃ => wpAny_mono (q₃ r s₃ rr R₃) (fun zz zz p25 => Post.el p25 fun zz H₄ q₄ zz R₄ k₄ => 
      ⟨.next, H₄, q₄, rfl, R₄, ((k.trans k₂).trans k₃).trans k₄⟩) fun zz zz e => e) fun zz zz e => e) fun zz zz e => e) fun zz zz e => e)

-- constants
theorem wp_int {i : Int} {k : Nat} (q : Q (.int i) H) : WP C A (VRel C.X) (eval (.Constant (.int i) k pos) env) Q H := fun s R => wpAny_Constant_int (post_tk (s := s) (x := V.int i) R ⟨_, rfl⟩ q)
theorem wp_str {i : Str} {k : Nat} (q : Q (.str i) H) : WP C A (VRel C.X) (eval (.Constant (.str i) k pos) env) Q H := fun s R => wpAny_Constant_str (post_tk (s := s) (x := V.str i) R ⟨_, rfl⟩ q)
theorem wp_bool {i : Bool} {k : Nat} (q : Q (.bool i) H) : WP C A (VRel C.X) (eval (.Constant (.bool i) k pos) env) Q H := fun s R => wpAny_Constant_bool (post_id (s := s) (x := V.bool i) R rfl q)
theorem wp_bytes {i : List UInt8} {k : Nat} (q : Q (.bytes i.toArray) H) : WP C A (VRel C.X) (eval (.Constant (.bytes i) k pos) env) Q H := fun s R => Constant_bytes (post_tk (s := s) (x := V.bytes i.toArray) R ⟨_, rfl⟩ q)

-- arguments
noncomputable abbrev WPL (C : Cfg) (A : Around) (env : Env) (pos : Pos) (es : List Expr) (Q : List V → AH → Prop) (H : AH) : Prop := WP C A (VsRel C.X) (spliced (backTo pos (starEach es env))) Q H
variable {QL : List V → AH → Prop}
theorem wpl_nil (q : QL [] H) : WPL C A env pos [] QL H := fun s R => wpAny_items_nil (post_id (s := s) (x := []) R VsRel.nil q)
theorem wpl_cons {e : Expr} {es : List Expr} (h : WP C A (VRel C.X) (eval e env) (fun x H₁ => WPL C A env pos es (fun xs H₂ => QL (x :: xs) H₂) H₁) H)
    (he : starEach (e :: es) env = (false, eval e env) :: starEach es env := by with_unfolding_all rfl) : WPL C A env pos (e :: es) QL H := fun s R =>
  wpAny_items_cons (he := he) (wpAny_mono (h s R) (fun v s₁ p26 => Post.el p26 fun x H₁ q rv R₁ k => wpAny_mono (q s₁ R₁) (fun vs s₂ p27 => Post.el p27 fun xs H₂ q₂ rvs R₂ k₂ => ⟨x :: xs, H₂, q₂, .cons (rv.fz (k₂.fz R₁)) rvs, R₂, k.trans k₂⟩) fun zz zz e => e) fun zz zz e => e)

-- calls
noncomputable def KeepsOk (M : Model) (A : Around) (fv : Value) (s : Shared) : Prop := ∃ k, ∀ Q : Keeper → Shared → Prop, Q k s → wpAny M A (keeperOf fv) Q NoE s
noncomputable def WPC (C : Cfg) (A : Around) (f : V) (args : List V) (Q : V → AH → Prop) (H : AH) : Prop :=
  ∀ fv avs s, VRel C.X s.heap f fv → VsRel C.X s.heap args avs → Rel C H s → KeepsOk (model C.prog C.w) A fv s ∧ wpAny (model C.prog C.w) A (call fv avs) (Post C (VRel C.X) Q H s) NoE s

theorem callWith_K {M : Model} {E : Value → Shared → Prop} {s : Shared} {fv : Value} {first : List Value} {args : List (Bool × Sem Value)} {P : Value → Shared → Prop} (hplain : args.any (·.1) = false)
    (h : wpAny M A (evalArgs fv true args []) (fun a s₁ => a.kw = [] ∧ (∃ k, ∀ Q : Keeper → Shared → Prop, Q k s₁ → wpAny M A (keeperOf fv) Q E s₁) ∧ wpAny M A (call fv (first ++ a.pos)) P E s₁) E s) :
    wpAny M A (callWith pos fv first args []) P E s := by
  unfold callWith
  refine wpAny_bind (wpAny_holding (wpAny_mono h (fun a s₁ h₁ => wpAny_bind (wpAny_standAt ?_)) fun zz zz x => x))
  obtain ⟨apos, akw⟩ := a
  obtain ⟨hkw, ⟨k, hk⟩, hc⟩ := h₁
  obtain rfl : akw = [] := hkw
  simp only [hplain, List.any_nil, Bool.or_false]
  have tail : ∀ {t : Sem Value}, wpAny M A t P E s₁ → wpAny M A (t >>= fun r => holding [r] point >>= fun zz => pure r) P E s₁ :=
    fun ht => wpAny_bind (wpAny_mono ht (fun r s₂ hr => wpAny_bind (wpAny_holding (wpAny_point (wpAny_pure hr)))) fun zz zz x => x)
  refine wpAny_bind (hk _ ?_)
  cases k with
  | frame =>
    simp only []
    split
    · exact tail hc
    · exact tail (by unfold callMarked; exact wpAny_keep hc)
  | boundFrame =>
    simp only []
    split
    · exact tail hc
    · exact tail (by unfold callMarked; exact wpAny_keep hc)
  | machine => exact tail hc
  | caller => exact tail (wpAny_operateT hc)

noncomputable def ArgsRel (X : List Addr) (h : Heap) (xs : List V) (a : Args) : Prop := a.kw = [] ∧ VsRel X h xs a.pos
noncomputable def WPG (C : Cfg) (A : Around) (env : Env) (pos : Pos) (es : List Expr) (Q : List V → AH → Prop) (H : AH) : Prop :=
  (backTo pos (starEach es env)).any (·.1) = false ∧ ∀ f, WP C A (ArgsRel C.X) (evalArgs f true (backTo pos (starEach es env)) []) Q H
theorem wpg_nil (q : QL [] H) : WPG C A env pos [] QL H := ⟨rfl, fun f s R => PySem.evalArgs_none (post_id (s := s) (x := []) R ⟨rfl, VsRel.nil⟩ q)⟩
theorem wpg_cons {e : Expr} {es : List Expr} (h : WPL C A env pos (e :: es) QL H) (he : starEach (e :: es) env = (false, eval e env) :: starEach es env := by with_unfolding_all rfl)
    (hst : (backTo pos (starEach (e :: es) env)).any (·.1) = false := by with_unfolding_all rfl) : WPG C A env pos (e :: es) QL H := ⟨hst, fun f s R => by
  have h' := h s R
  rw [he] at h' ⊢
  exact evalArgs_plain (wpAny_mono h' (fun vs s₁ p28 => Post.el p28 fun xs H₁ q r R₁ k => ⟨xs, H₁, q, ⟨rfl, r⟩, R₁, k⟩) fun zz zz e => e)⟩

theorem wp_callWith {fv : Value} {f : V} {first : List V} {fs : List Value} {es : List Expr} {s : Shared} (h : WPG C A env pos es (fun xs H₁ => WPC C A f (first ++ xs) Q H₁) H)
    (rf : VRel C.X s.heap f fv) (rfs : VsRel C.X s.heap first fs) (R : Rel C H s) : wpAny (model C.prog C.w) A (callWith pos fv fs (backTo pos (starEach es env)) []) (Post C (VRel C.X) Q H s) NoE s :=
  callWith_K h.1 (wpAny_mono (h.2 fv s R) (fun a s₁ p29 => Post.el p29 fun xs H₁ q p30 R₁ k => p30.elim fun hk ra => by
    obtain ⟨h1, h2⟩ := q fv (fs ++ a.pos) s₁ (rf.fz (k.fz R)) ((rfs.fz (k.fz R)).append ra) R₁
    exact ⟨hk, h1, wpAny_mono h2 (fun zz zz p => post_then k p) fun zz zz e => e⟩) fun zz zz e => e)

theorem wp_Call_Name {x : Str} {np : Pos} {es : List Expr} (h : WP C A (VRel C.X) (eval (.Name x np) env) (fun f H₁ => WPG C A env pos es (fun xs H₂ => WPC C A f xs Q H₂) H₁) H) :
    WP C A (VRel C.X) (eval (.Call (.Name x np) es [] pos) env) Q H := fun s R =>
  wpAny_Call_ofName (wpAny_mono (h s R) (fun fv s₁ p31 => Post.el p31 fun f H₁ q rf R₁ k => wpAny_mono (wp_callWith (first := []) q rf VsRel.nil R₁) (fun zz zz p => post_then k p) fun zz zz e => e) fun zz zz e => e)

noncomputable def MRel (X : List Addr) (h : Heap) (p : V × List V) (q : Value × List Value) : Prop := VRel X h p.1 q.1 ∧ VsRel X h p.2 q.2
noncomputable def WPM (C : Cfg) (A : Around) (x : V) (name : Str) (Q : V → List V → AH → Prop) (H : AH) : Prop := ∀ pl, Op1 C A (MRel C.X) (fun v => getMethod v name pl) x (fun p H₁ => Q p.1 p.2 H₁) H
theorem wp_Call_Attr {o : Expr} {name : Str} {apos : Pos} {es : List Expr}
    (h : WP C A (VRel C.X) (eval o env) (fun x H₁ => WPM C A x name (fun f first H₂ => WPG C A env pos es (fun xs H₃ => WPC C A f (first ++ xs) Q H₃) H₂) H₁) H)
    (hbase : attributeBase o name env (eval o env) = eval o env := by with_unfolding_all rfl)
    (hfew : ((backTo pos (starEach es env)).all (fun x => !x.1) && (backToKw pos (keywordEach [] env)).all (fun x => x.1.isSome)
      && decide (es.length + ([] : List Keyword).length + (if ([] : List Keyword).isEmpty then 0 else 1) < 30)) = true := by with_unfolding_all rfl)
    (hline : (apos.endLine == pos.line) = true := by with_unfolding_all rfl) :
    WP C A (VRel C.X) (eval (.Call (.Attribute o name apos) es [] pos) env) Q H := fun s R => by
  rw [arm_eval_Call, hbase]
  refine wpAny_bind (wpAny_mono (h s R) (fun ov s₁ p32 => Post.el p32 fun x H₁ q rx R₁ k => ?_) fun zz zz e => e)
  refine wpAny_bind (wpAny_standAt ?_)
  have hform : methodCallForm (es.length + ([] : List Keyword).length) (backTo pos (starEach es env)) (backToKw pos (keywordEach [] env)) = true := hfew
  have hpos : methodCallPos true o env apos pos = pure pos := by unfold methodCallPos; simp [hline]
  unfold methodCall
  rw [hform]
  refine wpAny_bind (wpAny_holding ?_)
  show wpAny _ A (getMethod ov name _) _ _ _
  refine wpAny_mono (q _ ov s₁ rx R₁) (fun p s₂ p33 => Post.el p33 fun y H₂ q₂ p34 R₂ k₂ => p34.elim fun r1 r2 => ?_) fun zz zz e => e
  refine wpAny_bind (wpAny_of_eq hpos ?_)
  exact wpAny_mono (wp_callWith q₂ r1 r2 R₂) (fun zz zz p => post_then k (post_then k₂ p)) fun zz zz e => e

-- displays
theorem wp_Tuple {es : List Expr} {k : Nat} (h : WPL C A env pos es (fun xs H₁ => FewOf xs (Q (.tup xs) H₁)) H) : WP C A (VRel C.X) (eval (.Tuple es k pos) env) Q H := fun s R =>
  wpAny_Tuple (wpAny_mono (h s R) (fun vs s₁ p35 => Post.el p35 fun xs H₁ p36 r R₁ k => p36.elim fun hz q => by
    have hl := r.length
    have ext : ∀ b o, s₁.heap.get? b = some o → (s₁.heap.push { cls := .type "tuple", data := .seq vs.toArray }).get? b = some o := fun b o e => Heap.get?_push_of_some _ e
    refine ⟨by rw [hl, sizeLine_eq]; lia, post_then k (post_ext (s := s₁) (h' := s₁.heap.push { cls := .type "tuple", data := .seq vs.toArray }) (tk := s₁.toks) (x := V.tup xs) R₁ ext ?_ q)⟩
    simp only [VRel]
    exact ⟨_, vs.toArray, rfl, fun hX => let ⟨_, o, e⟩ := R₁.xl _ hX; Nat.lt_irrefl _ (Heap.lt_size e), ⟨_, Heap.get?_push_size _ rfl, rfl, 0, rfl⟩, by simpa using r.fz (fz_of_ext ext)⟩) fun zz zz e => e)
theorem wp_List {es : List Expr} (h : WPL C A env pos es (fun xs H₁ => FewOf xs (∀ a, Q (.ref a) ((a, .list xs) :: H₁))) H) : WP C A (VRel C.X) (eval (.List es pos) env) Q H := fun s R =>
  wpAny_List (wpAny_mono (h s R) (fun vs s₁ p37 => Post.el p37 fun xs H₁ p38 r R₁ k => p38.elim fun hz q => by
    have hl := r.length
    have ext : ∀ b o, s₁.heap.get? b = some o → (s₁.heap.push { cls := .type "list", data := .seq vs.toArray }).get? b = some o := fun b o e => Heap.get?_push_of_some _ e
    refine ⟨by rw [hl, sizeLine_eq]; lia, ⟨.ref s₁.heap.objs.size, (s₁.heap.objs.size, .list xs) :: H₁, q _, rfl, R₁.add ext (Nat.le_refl _) ?_, k.trans (kept_add ext (Nat.le_refl _))⟩⟩
    exact ⟨vs.toArray, ⟨0, Heap.get?_push_size _ rfl⟩, by simpa using r.fz (fz_of_ext ext)⟩) fun zz zz e => e)
end
end
noncomputable section
theorem NsRel.of_get {X : List Addr} {h : Heap} {m : Str → Option Value} : ∀ {ns : List Str} {os : List (Option V)}, os.length = ns.length →
    (∀ (i : Nat) n u, ns[i]? = some n → os[i]? = some (some u) → ∃ v, m n = some v ∧ VRel X h u v) → NsRel X h m ns os
  | [], os, e, _ => List.length_eq_zero_iff.mp e
  | n :: ns, [], e, _ => by simp at e
  | n :: ns, o :: os, e, k => ⟨o, os, rfl, fun u hu => k 0 n u rfl (by simp [hu]), NsRel.of_get (by simpa using e) fun i n' u h1 h2 => k (i + 1) n' u (by simpa using h1) (by simpa using h2)⟩

theorem lookup_of_mem {β : Type} : ∀ {l : List (Str × β)} {x : Str} {v : β}, (l.map (·.1)).Nodup → (x, v) ∈ l → l.lookup x = some v
  | (y, w) :: r, x, v, nd, h => by
    obtain ⟨h1, h2⟩ := List.nodup_cons.mp nd
    rw [List.lookup_cons]
    rcases List.mem_cons.mp h with e | h
    · cases e; simp
    · have : (x == y) = false := by
        apply beq_eq_false_iff_ne.mpr
        intro e
        exact h1 (e ▸ (List.mem_map_of_mem (f := Prod.fst) h : x ∈ r.map Prod.fst))
      rw [this]
      exact lookup_of_mem h2 h

theorem lookup_rev {β : Type} {l : List (Str × β)} {x : Str} {v : β} (nd : (l.map (·.1)).Nodup) (h : (x, v) ∈ l) : l.reverse.lookup x = some v :=
  lookup_of_mem (by rw [List.map_reverse]; exact List.pairwise_reverse.mpr (nd.imp fun h => h.symm)) (List.mem_reverse.mpr h)

theorem lookup_snoc {β : Type} {l : List (Str × β)} {n x : Str} {v : β} : (l.reverse ++ [(n, v)]).lookup x = (l.reverse.lookup x).or (if x = n then some v else none) := by
  rw [List.lookup_append]
  congr 1
  rw [List.lookup_cons]
  cases e : x == n with
  | true => rw [if_pos (beq_iff_eq.mp e)]
  | false => rw [if_neg (beq_eq_false_iff_ne.mp e)]; rfl

theorem bindL_eq (k : Str → Option NameKind) : ∀ (binds : List (Str × Value)) (m : Str → Option Value) (x : Str), k x = some .local → bindL k binds m x = (binds.reverse.lookup x).or (m x)
  | [], m, x, _ => by simp [bindL]
  | (n, v) :: r, m, x, hx => by
    rw [bindL, bindL_eq k r _ x hx, List.reverse_cons, lookup_snoc, Option.or_assoc]
    congr 1
    by_cases hn : k n = some .local
    · rw [if_pos hn]
      by_cases e : x = n
      · simp [e]
      · simp [e]
    · rw [if_neg hn]
      have : x ≠ n := fun e => hn (e ▸ hx)
      simp [this]
theorem bindC_eq (k : Str → Option NameKind) : ∀ (binds : List (Str × Value)) (m : Str → Option Value) (x : Str), k x ≠ some .local → bindC k binds m x = (binds.reverse.lookup x).or (m x)
  | [], m, x, _ => by simp [bindC]
  | (n, v) :: r, m, x, hx => by
    rw [bindC, bindC_eq k r _ x hx, List.reverse_cons, lookup_snoc, Option.or_assoc]
    congr 1
    by_cases hn : k n = some .local
    · rw [if_pos hn]
      have : x ≠ n := fun e => hx (e ▸ hn)
      simp [this]
    · rw [if_neg hn]
      by_cases e : x = n
      · simp [e]
      · simp [e]

inductive Init : List Str → List V → List (Option V) → Prop
  | done : Init [] [] []
  | arg {n ln x xs vals} : Init ln xs vals → Init (n :: ln) (x :: xs) (some x :: vals)
  | none {n ln vals} : Init ln [] vals → Init (n :: ln) [] (Option.none :: vals)
theorem Init.len {ln xs vals} (i : Init ln xs vals) : vals.length = ln.length := by
  induction i <;> simp [*]
theorem Init.le {ln xs vals} (i : Init ln xs vals) : xs.length ≤ ln.length := by
  induction i with
  | done => simp
  | arg _ ih => simp; omega
  | none _ ih => simp
theorem Init.at {ln xs vals} (i : Init ln xs vals) : ∀ (k : Nat) u, vals[k]? = some (some u) → xs[k]? = some u := by
  induction i with
  | done => intro k u h; simp at h
  | arg _ ih => intro k u h; cases k with
    | zero => simpa using h
    | succ k => simpa using ih k u (by simpa using h)
  | none _ ih => intro k u h; cases k with
    | zero => simp at h
    | succ k => have := ih k u (by simpa using h); simp at this

structure FnB (h : Heap) (fa : Addr) (F : FnA) (cd : Value) (o : Obj) (fd : FuncData) : Prop where
  get : h.get? fa = some o
  dat : o.data = .func fd
  r1 : fd.qualname = F.qual
  r2 : fd.params = F.params
  r3 : fd.body = F.body
  r4 : fd.scope = F.scope
  r5 : fd.closure = F.closure
  r6 : fd.globals = mainGlobals
  r7 : fd.builtins = builtinsNs
  r8 : fd.defaults = .none
  r9 : fd.kwdefaults = .none
  r10 : fd.code = cd
  code : h.CodeRec cd F.qual
structure FnAt (h : Heap) (fa : Addr) (F : FnA) (cd : Value) : Prop where
  ex : ∃ o fd, FnB h fa F cd o fd
theorem FnAt.keeps {h h' : Heap} {fa : Addr} {F : FnA} {cd : Value} (x : FnAt h fa F cd) (k : ∀ b o, h.get? b = some o → h'.get? b = some o) : FnAt h' fa F cd :=
  ⟨x.ex.elim fun o p => p.elim fun fd q => ⟨o, fd, { q with get := k _ _ q.get, code := q.code.keeps k }⟩⟩

noncomputable def envF (F : FnA) (L fa : Addr) (cd : Value) (cells : List (Str × Addr)) : Env :=
  { scope := F.scope, locals := L, globals := mainGlobals, cells := cells, qual := F.qual ++ ".<locals>.", func := some fa, code := cd, frame := some L, builtins := builtinsNs }

noncomputable def Binds (F : FnA) (pn : List Str) : Prop := ∀ (fd : FuncData) (vs : List Value), fd.params = F.params → fd.defaults = .none → fd.kwdefaults = .none → vs.length = pn.length → bindArgs fd ⟨vs, []⟩ = pure (pn.zip vs)

noncomputable def Fl.val : Fl → V
  | .ret v => v
  | _ => .none

structure Room (A : Around) (n : Nat) : Prop where
  hd : A.handled = none
  depth : A.depth + n < 900
  units : A.units + 8 * n + 100 < 9900
theorem Room.deeper {A : Around} {n : Nat} (r : Room A (n + 1)) (env : Env) : Room (A.deeper env) n :=
  ⟨r.hd, by have := r.depth; simp only [Around.deeper]; lia, by have := r.units; simp only [Around.deeper]; lia⟩
theorem Room.mono {A : Around} {n m : Nat} (r : Room A n) (h : m ≤ n) : Room A m := ⟨r.hd, by have := r.depth; lia, by have := r.units; lia⟩

section
variable {C : Cfg} {gl : List (Str × V)} {A : Around} {H H' : AH} {Q : V → AH → Prop}

theorem zip_fst_sub {α β : Type} : ∀ (l : List α) (r : List β), ((l.zip r).map (·.1)).Sublist l
  | [], _ => by simp
  | _ :: _, [] => by simp
  | a :: l, b :: r => by simpa using zip_fst_sub l r
theorem zip_take_nodup {ln : List Str} (nd : ln.Nodup) (vs : List Value) (n : Nat) : (((ln.take n).zip vs).map (·.1)).Nodup := by
  exact (nd.sublist (List.take_sublist _ _)).sublist (zip_fst_sub _ _)

theorem ns_init {X : List Addr} {h : Heap} {ln : List Str} {xs : List V} {vals : List (Option V)} {vs : List Value} {m : Str → Option Value} (nd : ln.Nodup) (i : Init ln xs vals) (r : VsRel X h xs vs)
    (hm : ∀ x ∈ ln, ∀ v, ((ln.take xs.length).zip vs).reverse.lookup x = some v → m x = some v) : NsRel X h m ln vals := by
  refine NsRel.of_get i.len fun k n u h1 h2 => ?_
  obtain ⟨v, hv, rv⟩ := r.get (i.at k u h2)
  have hk : k < xs.length := by
    have := i.at k u h2
    exact (List.getElem?_eq_some_iff.mp this).1
  refine ⟨v, hm n (List.mem_of_getElem? h1) v ?_, rv⟩
  refine lookup_rev (zip_take_nodup nd _ _) ?_
  refine List.mem_iff_getElem?.mpr ⟨k, ?_⟩
  rw [List.getElem?_zip_eq_some]
  exact ⟨by rw [List.getElem?_take, if_pos hk]; exact h1, hv⟩

theorem code_fn {fa : Addr} {F : FnA} {D : Value → Prop} {ln : List Str} {xs : List V} {vals : List (Option V)} {body : List Stmt} {n : Nat}
    (G : C.Ok gl) (hF : ∀ s, Rel C H s → ∃ cd, D cd ∧ FnAt s.heap fa F cd) (hroom : Room A (n + 1)) (hb : F.body = .stmts body) (hbind : Binds F (ln.take xs.length))
    (hln : ∀ x ∈ ln, F.scope.names.lookup x = some .local) (nd : ln.Nodup) (hcell : ∀ x ∈ F.scope.names, x.2 ≠ .cell) (i : Init ln xs vals)
    (h : ∀ L cd, D cd → WPS C (A.deeper (envF F L fa cd F.closure)) (envF F L fa cd F.closure) body (fun fl H₁ => ∃ H₂, Sub H₂ H₁ ∧ Q fl.val H₂) ((L, .ns ln vals) :: H))
    (hco : F.scope.isCoroutine = false := by with_unfolding_all rfl) (hgen : F.scope.isGenerator = false := by with_unfolding_all rfl) (hk : F.scope.kind = .function := by with_unfolding_all rfl) :
    ∀ avs s, VsRel C.X s.heap xs avs → Rel C H s → codeAny (model C.prog C.w) A (.call (.ref fa) ⟨avs, []⟩) (fun r s' => match r with | .ok (.ret v) => Post C (VRel C.X) Q H s v s' | .ok _ => False | .error e => NoE e s') s := fun avs s ra R => by
  obtain ⟨cd, hD, hFn⟩ := hF s R
  obtain ⟨o, fd, ho, hd, e1, e2, e3, e4, e5, e6, e7, e8, e9, e10, hrec⟩ := hFn.ex
  have hlen := ra.length
  · have hA : A.depth < recursionLimit := by have := hroom.depth; unfold recursionLimit; lia
    refine codeAny_call_function (body := body) hA ho hd (by rw [e4]; exact hco) (by rw [e4]; exact hgen) (by rw [e3]; exact hb) (by rw [e10, e1]; exact hrec) ?_
    have hpn : avs.length = (ln.take xs.length).length := by rw [List.length_take, Nat.min_eq_left i.le, hlen]
    rw [hbind fd avs e2 e8 e9 hpn, e4, e5, e6, e7, e1, e10]
    refine wpAny_pure (wpAny_newFunctionEnv hcell (fun x hx => hln x.1 ?_) (fun h' hns hsb => ?_) hk)
    · exact List.mem_of_mem_take (List.of_mem_zip hx).1
    · have ext : ∀ b o, s.heap.get? b = some o → h'.get? b = some o := fun b o e => hsb.extBut b o (Nat.ne_of_lt (Heap.lt_size e)) (Heap.get?_push_of_some _ e)
      refine ⟨(G.nolimit.keeps R.keep).keeps ext, ?_⟩
      show codeAny _ A (.func body (envF F s.heap.objs.size fa cd F.closure)) _ _
      have R' : Rel C ((s.heap.objs.size, .ns ln vals) :: H) { s with heap := h', toks := s.toks + ((ln.take xs.length).zip avs).length } :=
        R.add ext (Nat.le_refl _) ⟨nd, _, hns, ns_init nd i (ra.fz (fz_of_ext ext)) fun x zz v e => e⟩
      have k' : Kept H s ((s.heap.objs.size, .ns ln vals) :: H) { s with heap := h', toks := s.toks + ((ln.take xs.length).zip avs).length } := kept_add ext (Nat.le_refl _)
      refine codeAny_func (wpAny_mono (h _ _ hD _ R') (fun f s₁ ⟨fl, H₁, ⟨H₂, sub, q⟩, rf, R₁, k₁⟩ => ?_) fun zz zz e => e.elim)
      refine ⟨fl.val, H₂, q, ?_, R₁.sub sub, (k'.trans k₁).sub sub⟩
      cases fl with
      | ret v => obtain ⟨w, rfl, rw⟩ := rf; exact rw
      | next => cases rf; simp [Fl.val, VRel]
      | brk => cases rf; simp [Fl.val, VRel]
      | cont => cases rf; simp [Fl.val, VRel]



theorem call_fnE {fa : Addr} {F : FnA} {D : Value → Prop} {ln : List Str} {xs : List V} {vals : List (Option V)} {body : Expr} {n : Nat}
    (G : C.Ok gl) (hF : ∀ s, Rel C H s → ∃ cd, D cd ∧ FnAt s.heap fa F cd) (hroom : Room A (n + 1)) (hb : F.body = .expr body) (hbind : Binds F (ln.take xs.length))
    (hln : ∀ x ∈ ln, F.scope.names.lookup x = some .local) (nd : ln.Nodup) (hcell : ∀ x ∈ F.scope.names, x.2 ≠ .cell) (i : Init ln xs vals)
    (h : ∀ L cd, D cd → WP C (A.deeper (envF F L fa cd F.closure)) (VRel C.X) (eval body (envF F L fa cd F.closure)) (fun v H₁ => ∃ H₂, Sub H₂ H₁ ∧ Q v H₂) ((L, .ns ln vals) :: H))
    (hco : F.scope.isCoroutine = false := by with_unfolding_all rfl) (hgen : F.scope.isGenerator = false := by with_unfolding_all rfl) (hk : F.scope.kind = .function := by with_unfolding_all rfl) :
    WPC C A (.ref fa) xs Q H := fun fv avs s rf ra R => by
  simp only [VRel] at rf; subst rf
  obtain ⟨cd, hD, hFn⟩ := hF s R
  obtain ⟨o, fd, ho, hd, e1, e2, e3, e4, e5, e6, e7, e8, e9, e10, hrec⟩ := hFn.ex
  have hlen := ra.length
  refine ⟨⟨.frame, fun Q' q => ?_⟩, ?_⟩
  · unfold keeperOf
    refine wpAny_bind (wpAny_load ho ?_)
    rw [hd]
    exact wpAny_pure q
  · have hA : A.depth < recursionLimit := by have := hroom.depth; unfold recursionLimit; lia
    refine wpAny_call (kla_callFunE (body := body) hA ho hd (by rw [e4]; exact hco) (by rw [e4]; exact hgen) (by rw [e3]; exact hb) (by rw [e10, e1]; exact hrec) ?_)
    have hpn : avs.length = (ln.take xs.length).length := by rw [List.length_take, Nat.min_eq_left i.le, hlen]
    rw [hbind fd avs e2 e8 e9 hpn, e4, e5, e6, e7, e1, e10]
    refine wpAny_pure (wpAny_newFunctionEnv hcell (fun x hx => hln x.1 ?_) (fun h' hns hsb => ?_) hk)
    · exact List.mem_of_mem_take (List.of_mem_zip hx).1
    · have ext : ∀ b o, s.heap.get? b = some o → h'.get? b = some o := fun b o e => hsb.extBut b o (Nat.ne_of_lt (Heap.lt_size e)) (Heap.get?_push_of_some _ e)
      refine ⟨(G.nolimit.keeps R.keep).keeps ext, ?_⟩
      show codeAny _ A (.expr body (envF F s.heap.objs.size fa cd F.closure)) _ _
      have R' : Rel C ((s.heap.objs.size, .ns ln vals) :: H) { s with heap := h', toks := s.toks + ((ln.take xs.length).zip avs).length } :=
        R.add ext (Nat.le_refl _) ⟨nd, _, hns, ns_init nd i (ra.fz (fz_of_ext ext)) fun x zz v e => e⟩
      have k' : Kept H s ((s.heap.objs.size, .ns ln vals) :: H) { s with heap := h', toks := s.toks + ((ln.take xs.length).zip avs).length } := kept_add ext (Nat.le_refl _)
      refine kla_codeExpr (wpAny_mono (h _ _ hD _ R') (fun f s₁ ⟨fl, H₁, ⟨H₂, sub, q⟩, rf, R₁, k₁⟩ => ?_) fun zz zz e => e.elim)
      exact ⟨fl, H₂, q, rf, R₁.sub sub, (k'.trans k₁).sub sub⟩

inductive CInit (pn : List Str) (xs : List (Option V)) : List (Str × Addr) → AH → Prop
  | nil : CInit pn xs [] []
  | param {n c v cs Hc} : At pn xs n v → CInit pn xs cs Hc → CInit pn xs ((n, c) :: cs) ((c, .cell (some v)) :: Hc)
  | other {n c cs Hc} : CInit pn xs cs Hc → CInit pn xs ((n, c) :: cs) ((c, .cell none) :: Hc)
theorem At.index {ns os x v} (a : At ns os x v) : ∃ k : Nat, ns[k]? = some x ∧ os[k]? = some (some v) := by
  induction a with
  | head => exact ⟨0, rfl, rfl⟩
  | tail _ ih => obtain ⟨k, h1, h2⟩ := ih; exact ⟨k + 1, by simpa using h1, by simpa using h2⟩
theorem CInit.keys {pn xs cs Hc} (c : CInit pn xs cs Hc) : keys Hc = cs.map (·.2) := by
  induction c <;> simp_all [Mine.Internal.keys]
theorem CInit.mem {pn xs cs Hc} (c : CInit pn xs cs Hc) : ∀ p ∈ Hc, ∃ n o, p.2 = .cell o ∧ (n, p.1) ∈ cs ∧ ∀ v, o = some v → At pn xs n v := by
  induction c with
  | nil => intro p hp; cases hp
  | param a _ ih =>
    intro p hp
    rcases List.mem_cons.mp hp with rfl | hp
    · exact ⟨_, _, rfl, .head _, fun v e => by cases e; exact a⟩
    · obtain ⟨n, o, h1, h2, h3⟩ := ih p hp; exact ⟨n, o, h1, .tail _ h2, h3⟩
  | other _ ih =>
    intro p hp
    rcases List.mem_cons.mp hp with rfl | hp
    · exact ⟨_, _, rfl, .head _, fun v e => by cases e⟩
    · obtain ⟨n, o, h1, h2, h3⟩ := ih p hp; exact ⟨n, o, h1, .tail _ h2, h3⟩

theorem Rel.addAll {s : Shared} {h' : Heap} {t : Tok} (R : Rel C H s) (k : ∀ b o, s.heap.get? b = some o → h'.get? b = some o) {N : AH} (hn : (keys N).Nodup) (hge : ∀ p ∈ N, s.heap.objs.size ≤ p.1) (ho : ∀ p ∈ N, ORel C.X h' p.1 p.2) :
    Rel C (N ++ H) { s with heap := h', toks := t } ∧ Kept H s (N ++ H) { s with heap := h', toks := t } := by
  refine ⟨⟨fun b o e => k b o (R.keep b o e), R.gens, R.os, ?_, fun p hp => ?_, fun p hp => ?_, fun b hb => ?_⟩, fun b o n e => ⟨k b o e, fun h => ?_⟩⟩
  · simp only [keys, List.map_append]
    refine List.nodup_append.mpr ⟨hn, R.nd, fun a ha b hb e => ?_⟩
    subst e
    obtain ⟨p, hp, rfl⟩ := List.mem_map.mp ha
    exact absurd (R.lt hb) (Nat.not_lt.mpr (hge p hp))
  · rcases List.mem_append.mp hp with hp | hp
    · exact R.baseNew (hge p hp)
    · exact R.fresh p hp
  · rcases List.mem_append.mp hp with hp | hp
    · exact ho p hp
    · exact (R.objs p hp).move (fz_of_ext k) fun o e => k _ o e
  · obtain ⟨n, o, e⟩ := R.xl b hb
    refine ⟨fun h => ?_, o, k _ _ e⟩
    simp only [keys, List.map_append] at h
    rcases List.mem_append.mp h with h | h
    · obtain ⟨p, hp, rfl⟩ := List.mem_map.mp h
      exact absurd (Heap.lt_size e) (Nat.not_lt.mpr (hge p hp))
    · exact n h
  · simp only [keys, List.map_append] at h
    rcases List.mem_append.mp h with h | h
    · obtain ⟨p, hp, rfl⟩ := List.mem_map.mp h
      exact absurd (Heap.lt_size e) (Nat.not_lt.mpr (hge p hp))
    · exact n h

theorem code_fnC {fa : Addr} {F : FnA} {cd : Value} {pn ln : List Str} {xs : List V} {vals : List (Option V)} {body : List Stmt} {n : Nat}
    (G : C.Ok gl) (hF : ∀ s, Rel C H s → FnAt s.heap fa F cd) (hroom : Room A (n + 1)) (hb : F.body = .stmts body) (hclo : F.closure = []) (hbind : Binds F pn) (hpl : pn.length = xs.length) (ndp : pn.Nodup)
    (hln : ∀ x ∈ ln, F.scope.names.lookup x = some .local) (nd : ln.Nodup)
    (hkind : ∀ x ∈ pn, F.scope.names.lookup x = some .local ∨ F.scope.names.lookup x = some .cell)
    (hcs : ∀ L x, x ∈ pn → F.scope.names.lookup x = some .cell → ((cellsFrom (L + 1) F.scope.names []).lookup x).isSome = true)
    (hnl : ∀ L, ∀ p ∈ cellsFrom (L + 1) F.scope.names [], F.scope.names.lookup p.1 = some .cell ∧ (cellsFrom (L + 1) F.scope.names []).lookup p.1 = some p.2)
    (hv : ln.length = vals.length) (hvals : ∀ (k : Nat) x u, ln[k]? = some x → vals[k]? = some (some u) → At pn (xs.map some) x u)
    (h : ∀ L, ∃ Hc, CInit pn (xs.map some) (cellsFrom (L + 1) F.scope.names []) Hc ∧
      WPS C (A.deeper (envF F L fa cd (cellsFrom (L + 1) F.scope.names []))) (envF F L fa cd (cellsFrom (L + 1) F.scope.names [])) body (fun fl H₁ => ∃ H₂, Sub H₂ H₁ ∧ Q fl.val H₂) (Hc ++ (L, .ns ln vals) :: H))
    (hco : F.scope.isCoroutine = false := by with_unfolding_all rfl) (hgen : F.scope.isGenerator = false := by with_unfolding_all rfl) (hk : F.scope.kind = .function := by with_unfolding_all rfl) :
    ∀ avs s, VsRel C.X s.heap xs avs → Rel C H s → codeAny (model C.prog C.w) A (.call (.ref fa) ⟨avs, []⟩) (fun r s' => match r with | .ok (.ret v) => Post C (VRel C.X) Q H s v s' | .ok _ => False | .error e => NoE e s') s := fun avs s ra R => by
  obtain ⟨o, fd, ho, hd, e1, e2, e3, e4, e5, e6, e7, e8, e9, e10, hrec⟩ := (hF s R).ex
  have hlen := ra.length
  have hA : A.depth < recursionLimit := by have := hroom.depth; unfold recursionLimit; lia
  refine (codeAny_call_function (body := body) hA ho hd (by rw [e4]; exact hco) (by rw [e4]; exact hgen) (by rw [e3]; exact hb) (by rw [e10, e1]; exact hrec) ?_)
  have hpn : avs.length = pn.length := by rw [hpl, hlen]
  rw [hbind fd avs e2 e8 e9 hpn, e4, e5, e6, e7, e1, e10, hclo]
  refine wpAny_pure (wpAny_newFunctionEnv_cells hk (fun x hx => ?_) fun env he s' X => ?_)
  · have hx' := (List.of_mem_zip hx).1
    rcases hkind _ hx' with q | q
    · exact .inl q
    · exact .inr ⟨q, hcs _ _ hx' q⟩
  · have he' : env = envF F s.heap.objs.size fa cd (cellsFrom (s.heap.objs.size + 1) F.scope.names []) := he
    subst he'
    have ext := X.toInCall.keep
    obtain ⟨h', tk, rfl⟩ := X.toInCall.same
    refine ⟨(G.nolimit.keeps R.keep).keeps ext, ?_⟩
    obtain ⟨Hc, ci, hw⟩ := h s.heap.objs.size
    have ndz : ((pn.zip avs).map (·.1)).Nodup := by
      exact ndp.sublist (zip_fst_sub _ _)
    have getz : ∀ x u, At pn (xs.map some) x u → ∃ v, (pn.zip avs).reverse.lookup x = some v ∧ VRel C.X h' u v := fun x u a => by
      obtain ⟨k, h1, h2⟩ := a.index
      rw [List.getElem?_map] at h2
      obtain ⟨u', hu, e⟩ := Option.map_eq_some_iff.mp h2
      cases e
      obtain ⟨v, hv, rv⟩ := ra.get hu
      refine ⟨v, lookup_rev ndz (List.mem_iff_getElem?.mpr ⟨k, ?_⟩), rv.fz (fz_of_ext ext)⟩
      rw [List.getElem?_zip_eq_some]; exact ⟨h1, hv⟩
    have rN := Rel.addAll (t := tk) R ext (N := Hc ++ [(s.heap.objs.size, .ns ln vals)]) ?_ ?_ ?_
    · obtain ⟨R', k'⟩ := rN
      rw [List.append_assoc] at R' k'
      refine codeAny_func (wpAny_mono (hw _ R') (fun f s₁ ⟨fl, H₁, ⟨H₂, sub, q⟩, rf, R₁, k₁⟩ => ?_) fun zz zz e => e.elim)
      refine ⟨fl.val, H₂, q, ?_, R₁.sub sub, (k'.trans k₁).sub sub⟩
      cases fl with
      | ret v => obtain ⟨w, rfl, rw⟩ := rf; exact rw
      | next => cases rf; simp [Fl.val, VRel]
      | brk => cases rf; simp [Fl.val, VRel]
      | cont => cases rf; simp [Fl.val, VRel]
    · simp only [keys, List.map_append, List.map_cons, List.map_nil]
      have hke := ci.keys
      simp only [keys] at hke
      rw [hke]
      refine List.nodup_append.mpr ⟨List.pairwise_map.mpr X.apart, by simp, fun a ha b hb e => ?_⟩
      subst e
      obtain ⟨p, hp, rfl⟩ := List.mem_map.mp ha
      have hgt := X.above p.1 p.2 hp
      rw [List.mem_singleton.mp hb] at hgt
      exact Nat.lt_irrefl _ hgt
    · intro p hp
      rcases List.mem_append.mp hp with hp | hp
      · obtain ⟨n, o, _, hm, _⟩ := ci.mem p hp
        exact Nat.le_of_lt (X.above _ _ hm)
      · rw [List.mem_singleton.mp hp]; exact Nat.le_refl _
    · intro p hp
      rcases List.mem_append.mp hp with hp | hp
      · obtain ⟨n, o, e, hm, ha⟩ := ci.mem p hp
        obtain ⟨hk1, hk2⟩ := hnl _ _ hm
        rw [e]
        have hcell := X.cell n p.1 hk2
        refine ⟨_, hcell, fun u hu => ?_⟩
        obtain ⟨v, hv, rv⟩ := getz n u (ha u hu)
        refine ⟨v, ?_, rv⟩
        rw [bindC_eq _ _ _ _ (by show F.scope.names.lookup n ≠ _; rw [hk1]; decide), hv]; rfl
      · rw [List.mem_singleton.mp hp]
        refine ⟨nd, _, X.toInCall.ns, NsRel.of_get hv.symm fun k x u h1 h2 => ?_⟩
        obtain ⟨v, hv', rv⟩ := getz x u (hvals k x u h1 h2)
        refine ⟨v, ?_, rv⟩
        rw [bindL_eq _ _ _ _ (hln x (List.mem_of_getElem? h1)), hv']; rfl
end
end
noncomputable section
theorem Upd.self {a : Addr} {x : AO} : ∀ {H : AH}, (a, x) ∈ H → Upd a x x H H
  | p :: r, h => by
    rcases List.mem_cons.mp h with rfl | h
    · exact .head
    · exact .tail (Upd.self h)

section
variable {C : Cfg} {gl : List (Str × V)} {A : Around} {env : Env} {c P : Addr} {qual name : Str} {params : Arguments} {body : FuncBody} {scope : Scope} {clos : List (Str × Addr)} {pos : Pos} {fl : Nat} {H H' : AH} {Q : V → AH → Prop}

theorem CodeF.of_tab {h : Heap} {c P : Addr} {ps : Array Value} {q : Str} (t : h.TableAt c P ps) (r : h.CodeRec (.ref c) q) : CodeF h (.ref c) q := by
  obtain ⟨⟨o, vs, e1, e2, e3, _⟩, _⟩ := t
  obtain ⟨c', o', vs', t', ec, e1', e3', e4⟩ := r
  cases ec
  rw [e1] at e1'; cases e1'
  rw [e3] at e3'; cases e3'
  exact ⟨c, o, vs, t', rfl, e1, e2, e3, e4⟩

theorem codeAmong_app {p : Pos} {a b : Int} {c c' : Value} (l : List Value) (h : TriplesOk l) : codeAmong p (l ++ [rawInt a, rawInt b, c]) = some c' → codeAmong p l = some c' ∨ c' = c := by
  fun_induction TriplesOk l with
  | case1 =>
    intro e
    right
    simp only [List.nil_append, rawInt, codeAmong] at e
    split at e
    · cases e; rfl
    · cases e
  | case2 a' t b' u x rest ih =>
    intro e
    simp only [List.cons_append, codeAmong] at e ⊢
    split at e
    · rename_i hc; rw [if_pos hc]; exact .inl e
    · rename_i hc; rw [if_neg hc]; exact ih h e
  | case3 l h1 h2 => exact h.elim

theorem clos_step {M : Model} {E : Value → Shared → Prop} {s : Shared} {n : Bool} {l : List Value} {k : Value → Sem Value} {Q : Value → Shared → Prop} (h : ∀ v h₁, (∀ b o, s.heap.get? b = some o → h₁.get? b = some o) → s.heap.objs.size ≤ h₁.objs.size → wpAny M A (k v) Q E { s with heap := h₁ }) :
    wpAny M A (if n = true then pure Value.none >>= k else newTextTuple l >>= k) Q E s := by
  cases n with
  | true => exact wpAny_bind (wpAny_pure (h _ s.heap (fun zz zz e => e) (Nat.le_refl _)))
  | false => exact wpAny_bind (wpAny_newTextTuple (h _ _ (fun zz zz e => Heap.get?_push_of_some _ e) (by rw [Heap.size_push]; exact Nat.le_succ _)))
theorem doc_step {M : Model} {E : Value → Shared → Prop} {s : Shared} {k : Value → Sem Value} {Q : Value → Shared → Prop} (h : ∀ v t, wpAny M A (k v) Q E { s with toks := t }) :
    wpAny M A (match body with
      | .stmts b => (match docOf b with | some s => mkText s | none => pure .none) >>= k
      | .expr _ => pure .none >>= k) Q E s := by
  cases body with
  | expr e => exact wpAny_bind (wpAny_pure (h _ _))
  | stmts b =>
    show wpAny M A ((match docOf b with | some s => mkText s | none => pure .none) >>= k) Q E s
    cases docOf b with
    | none => exact wpAny_bind (wpAny_pure (h _ _))
    | some t => exact wpAny_bind (wpAny_mkText (h _ _))
theorem code_step {s : Shared} {ps : Array Value} {nm : Str} {f0 : Nat} {Q' : Value → Shared → Prop} (hcode : env.code = .ref c) (CH : CodeHd s.heap c P) (hps : s.heap.get? P = some (tabObj ps)) (htr : TriplesOk ps.toList)
    (hall : ∀ pos c, codeAmong pos ps.toList = some c → CodeF s.heap c qual) (hn : ∀ a o, s.heap.get? a = some o → Frozen C.X a o → a ≠ P)
    (h : ∀ cv h₂ tk, Heap.ExtBut P s.heap h₂ → s.heap.objs.size ≤ h₂.objs.size → ORel C.X h₂ P (.tab qual) → CodeF h₂ cv qual → Q' cv { s with heap := h₂, toks := tk }) :
    wpAny (model C.prog C.w) A (functionCode env pos f0 nm qual params scope body) Q' NoE s := by
  cases hca : codeAmong pos ps.toList with
  | some cv => exact wpAny_functionCode_hit hcode (CH.code hps htr) hca (h cv s.heap s.toks (fun zz zz zz e => e) (Nat.le_refl _) ⟨ps, hps, htr, hall⟩ (hall _ _ hca))
  | none =>
    refine wpAny_functionCodeX hcode (CH.code hps htr) (CH.tab hps) hca fun c' h' tk hx hge hlt zz hrec htb h4 => h4.elim fun P' h5 => ?_
    have hcf := CodeF.of_tab h5.2.2 hrec
    refine h _ h' tk hx (Nat.le_trans hge (Nat.le_of_lt hlt)) ⟨_, htb.2, by simpa using TriplesOk_snoc pos.line pos.col (.ref c') _ htr, fun pos' c'' hc'' => ?_⟩ hcf
    have hc3 : codeAmong pos' (ps.toList ++ [rawInt pos.line, rawInt pos.col, .ref c']) = some c'' := by simpa using hc''
    exact (codeAmong_app _ htr hc3).elim (fun h1 => (hall _ _ h1).fz (X := C.X) fun a o e f => hx a o (hn a o e f) e) fun e => e ▸ hcf
theorem mk_fn (G : C.Ok gl) (hcode : env.code = .ref c) (hC : CodeHd C.B c P) (hglob : env.globals = mainGlobals) (hP : (P, AO.tab qual) ∈ H) (hcl : closureFor scope env = pure clos)
    (q : ∀ f, Q (.ref f) ((f, .fn ⟨qual, params, body, scope, clos⟩) :: H)) : WP C A (VRel C.X) (makeFunction name qual params body scope env [] [] [] pos fl) Q H := fun s R => by
  obtain ⟨ps, hps, htr, hall⟩ := R.objs _ hP
  have hPk : P ∈ keys H := List.mem_map_of_mem (f := Prod.fst) hP
  have ne : ∀ {a o}, C.B.get? a = some o → a ≠ P := fun e q => by rw [q, R.fresh _ hP] at e; cases e
  obtain ⟨bm, ob, b1, b2, b3, b4, b5, b6⟩ := G.bmain
  rw [makeFunction_eq]
  simp only [List.zip_nil_right, List.filterMap_nil, List.isEmpty_nil, if_true, pure_bind]
  unfold makeTail
  rw [hcl, hglob]
  refine wpAny_bind (wpAny_pure (clos_step fun cl h₁ k₁ z₁ => wpAny_bind (code_step hcode ((hC.keeps R.keep).keeps k₁) (k₁ _ _ hps) htr (fun p c hc => (hall p c hc).fz (fz_of_ext (X := C.X) k₁))
    (fun a o e f q => (R.toks s.toks |>.ext k₁).notin e f (q ▸ hPk)) fun cv h₂ tk hx z₂ ht hcv => ?_)))
  have hk : ∀ b o, b ≠ P → s.heap.get? b = some o → h₂.get? b = some o := fun b o n e => hx b o n (k₁ b o e)
  have hg' : h₂.Ns mainGlobals C.mg := ((G.g.keeps R.keep).keeps k₁).extBut hx (let ⟨_, _, _, e, _⟩ := G.g; ne e)
  refine wpAny_bind (wpAny_builtinsFor hg' b1 b2 (hk _ _ (ne b3) (R.keep _ _ b3)) b4 b5 b6 (wpAny_bind (wpAny_nsGet hg' (doc_step fun dv t2 => wpAny_newObj_type ?_ (by size_fits)))))
  have R₂ := R.upd (h' := h₂) (t := t2) (Upd.self hP) hk ht
  generalize hfd : FuncData.mk .. = fd
  have ext : ∀ b o, h₂.get? b = some o → (h₂.push { cls := .type "function", data := .func fd }).get? b = some o := fun b o e => Heap.get?_push_of_some _ e
  refine ⟨.ref h₂.objs.size, (h₂.objs.size, .fn ⟨qual, params, body, scope, clos⟩) :: H, q _, rfl, R₂.1.add (s := { s with heap := h₂, toks := t2 }) ext (Nat.le_refl _) ?_, R₂.2.trans (kept_add (s := { s with heap := h₂, toks := t2 }) ext (Nat.le_refl _))⟩
  subst hfd
  exact ⟨_, _, Heap.get?_push_size _ rfl, rfl, rfl, rfl, rfl, rfl, rfl, rfl, rfl, rfl, rfl, rfl, hcv.fz (fz_of_ext (X := C.X) ext), rfl, rfl⟩

theorem fnAt_of_fn {f : Addr} {F : FnA} (h : (f, AO.fn F) ∈ H) : ∀ s, Rel C H s → ∃ cd, True ∧ FnAt s.heap f F cd := fun s R =>
  (R.objs _ h).elim fun o p => p.elim fun fd q => ⟨fd.code, trivial, ⟨o, fd, ⟨q.get, q.dat, q.r1, q.r2, q.r3, q.r4, q.r5, q.r6, q.r7, q.r8, q.r9, rfl, q.r1 ▸ q.code.rec⟩⟩⟩
theorem fnAt_of_base {f : Addr} {F : FnA} {cd : Value} (h : FnAt C.B f F cd) : ∀ s, Rel C H s → ∃ cd', cd' = cd ∧ FnAt s.heap f F cd' := fun s R => ⟨cd, rfl, h.keeps R.keep⟩

theorem wp_Lambda {e : Expr} (G : C.Ok gl) (hcode : env.code = .ref c) (hC : CodeHd C.B c P) (hglob : env.globals = mainGlobals) (hP : (P, AO.tab qual) ∈ H) (hcl : closureFor scope env = pure clos)
    (q : ∀ f, Q (.ref f) ((f, .fn ⟨qual, params, .expr e, scope, clos⟩) :: H)) (hq : env.qual ++ "<lambda>" = qual)
    (hd : defaultsOf params env = ([], []) := by with_unfolding_all rfl) : WP C A (VRel C.X) (eval (.Lambda params e scope pos) env) Q H := fun s R => by
  have h1 : eval (.Lambda params e scope pos) env = (do
    let (d, kd) := defaultsOf params env
    let dv ← evalAll d
    let kdv ← holding dv (evalAllOpt kd)
    makeFunction "<lambda>" (env.qual ++ "<lambda>") params (.expr e) scope env dv kdv [] pos pos.line) := rfl
  rw [h1, hd]
  refine wpAny_bind (wpAny_pure (wpAny_bind (wpAny_holding (wpAny_pure ?_))))
  rw [hq]
  exact mk_fn G hcode hC hglob hP hcl q s R

variable {QF : Fl → AH → Prop}
theorem wp1_Def {b : List Stmt} (G : C.Ok gl) (hcode : env.code = .ref c) (hC : CodeHd C.B c P) (hglob : env.globals = mainGlobals) (hP : (P, AO.tab qual) ∈ H) (hcl : closureFor scope env = pure clos)
    (h : ∀ f, Op1 C A URel (storeName env name) (.ref f) (fun zz H₂ => QF .next H₂) ((f, .fn ⟨qual, params, .stmts b, scope, clos⟩) :: H)) (hq : qualnameIn env name name = qual)
    (hd : defaultsOf params env = ([], []) := by with_unfolding_all rfl) (ha : annTrees params none env = [] := by with_unfolding_all rfl) : WP1 C A env (.FunctionDef name params b [] none [] scope none name pos) QF H := fun s R => by
  rw [exec_def, hd, ha, hq]
  refine wpAny_bind (wpAny_standAt (wpAny_bind (wpAny_holding ?_)))
  refine wpAny_bind (wpAny_pure (wpAny_bind (wpAny_holding (wpAny_pure (wpAny_holding (wpAny_bind (wpAny_pure ?_)))))))
  refine wpAny_mono (mk_fn (Q := fun v H₁ => Op1 C A URel (storeName env name) v (fun zz H₂ => QF .next H₂) H₁) G hcode hC hglob hP hcl h s R) (fun w s₁ p47 => Post.el p47 fun v H₁ q rw R₁ k => ?_) fun zz zz e => e
  exact wpAny_bind (wpAny_standAt (wpAny_bind (wpAny_bindName (wpAny_mono (q w s₁ rw R₁) (fun zz zz p48 => Post.el p48 fun zz H₂ q₂ zz R₂ k₂ => wpAny_pure ⟨.next, H₂, q₂, rfl, R₂, k.trans k₂⟩) fun zz zz e => e))))
end
end
noncomputable section
structure Src (C : Cfg) (A : Around) (target : Expr) (it : Value) (fp wr : List Addr) (J : Nat → Heap → Prop) (Item : Nat → AH → Option V → Prop) : Prop where
  sub : ∀ b ∈ wr, b ∈ fp
  nofz : ∀ i h, J i h → ∀ b ∈ wr, ∀ o, h.get? b = some o → ¬ Frozen C.X b o
  live : ∀ i h, J i h → ∀ b ∈ fp, ∃ o, h.get? b = some o
  frame : ∀ i h h', J i h → Fz C.X h h' → (∀ b ∈ fp, ∀ o, h.get? b = some o → h'.get? b = some o) → J i h'
  self : ∀ i s, J i s.heap → wpAny (model C.prog C.w) A (pyIter it) (fun r s' => r = it ∧ s' = s) NoE s
  item : ∀ i H s x, J i s.heap → Rel C H s → (∀ b ∈ fp, b ∉ keys H) → Item i H (some x) →
    wpAny (model C.prog C.w) A (pyNext it) (fun r s' => ∃ v, r = some v ∧ wpAny (model C.prog C.w) A (letOwnedTupleGo target it v) (fun zz s'' =>
      ∃ h' tk, s'' = { s with heap := h', toks := tk } ∧ VRel C.X h' x v ∧ J (i + 1) h' ∧ ∀ b o, b ∉ wr → s.heap.get? b = some o → h'.get? b = some o) NoE s') NoE s
  done : ∀ i H s, J i s.heap → Rel C H s → (∀ b ∈ fp, b ∉ keys H) → Item i H none →
    wpAny (model C.prog C.w) A (pyNext it) (fun r s' => r = none ∧ ∃ h' tk, s' = { s with heap := h', toks := tk } ∧ ∀ b o, b ∉ wr → s.heap.get? b = some o → h'.get? b = some o) NoE s

theorem Rel.but {C : Cfg} {H : AH} {s : Shared} (R : Rel C H s) {wr : List Addr} (hk : ∀ b ∈ wr, b ∉ keys H) (hB : ∀ b ∈ wr, C.B.get? b = none) (hfz : ∀ b ∈ wr, ∀ o, s.heap.get? b = some o → ¬ Frozen C.X b o) {h' : Heap} {t : Tok}
    (hl : ∀ b ∈ wr, ∃ o, h'.get? b = some o) (k : ∀ b o, b ∉ wr → s.heap.get? b = some o → h'.get? b = some o) : Rel C H { s with heap := h', toks := t } where
  keep := fun b o e => k b o (fun q => by rw [hB b q] at e; cases e) (R.keep b o e)
  gens := R.gens
  os := R.os
  nd := R.nd
  fresh := R.fresh
  objs := fun p hp => (R.objs p hp).move (fun a o e f => k a o (fun q => hfz a q o e f) e) fun o e => k _ o (fun q => hk _ q (List.mem_map_of_mem hp)) e
  xl := fun a ha => by
    obtain ⟨n, o, e⟩ := R.xl a ha
    by_cases q : a ∈ wr
    · exact ⟨n, hl a q⟩
    · exact ⟨n, o, k a o q e⟩

noncomputable def Cfg.hide (C : Cfg) (l : List Addr) : Cfg := { C with X := l ++ C.X }

theorem unhide_t {X l : List Addr} {h : Heap} : TChg (l ++ X) X h h := fun a items n t => ⟨fun q => n (List.mem_append_right _ q), t⟩
theorem Rel.unhide {C : Cfg} {l : List Addr} {H : AH} {s : Shared} (R : Rel (C.hide l) H s) (hl : ∀ p ∈ H, p.1 ∉ l) : Rel C H s where
  keep := R.keep
  gens := R.gens
  os := R.os
  nd := R.nd
  fresh := R.fresh
  objs := fun p hp => (R.objs p hp).chg unhide_t (fun n q => by
    rcases List.mem_append.mp q with q | q
    · exact hl p hp q
    · exact n q) (fun zz zz r => r) fun zz e => e
  xl := fun a ha => R.xl a (List.mem_append_right _ ha)
theorem Rel.butUnhide {C : Cfg} {l wr : List Addr} {H : AH} {s : Shared} (R : Rel (C.hide l) H s) (hk : ∀ b ∈ wr, b ∉ keys H) (hB : ∀ b ∈ wr, C.B.get? b = none) (hX : ∀ b ∈ wr, b ∉ C.X) (hl : ∀ p ∈ H, p.1 ∉ l)
    (hfz : ∀ b ∈ wr, ∀ o, s.heap.get? b = some o → ¬ Frozen (l ++ C.X) b o) {h' : Heap} {t : Tok} (k : ∀ b o, b ∉ wr → s.heap.get? b = some o → h'.get? b = some o) : Rel C H { s with heap := h', toks := t } where
  keep := fun b o e => k b o (fun q => by rw [hB b q] at e; cases e) (R.keep b o e)
  gens := R.gens
  os := R.os
  nd := R.nd
  fresh := R.fresh
  objs := fun p hp => (R.objs p hp).chg
    (fun a items n t => ⟨fun q => n (List.mem_append_right _ q), let ⟨o, e, c, m, d⟩ := t; ⟨o, k a o (fun q => hfz a q o e (.inl ⟨n, c, _, _, d⟩)) e, c, m, d⟩⟩)
    (fun n q => by
      rcases List.mem_append.mp q with q | q
      · exact hl p hp q
      · exact n q) (fun c q ⟨c', o, vs, t, a, b, d, e⟩ => ⟨c', o, vs, t, a, k c' o (fun q => hfz c' q o b (.inr ⟨d, _, e.1⟩)) b, d, e⟩) fun o e => k _ o (fun q => hk _ q (List.mem_map_of_mem hp)) e
  xl := fun a ha => by
    obtain ⟨n, o, e⟩ := R.xl a (List.mem_append_right _ ha)
    exact ⟨n, o, k a o (fun q => hX a q ha) e⟩

section
variable {C : Cfg} {gl : List (Str × V)} {A : Around} {env : Env} {target : Expr} {it : Value} {fp wr : List Addr} {J : Nat → Heap → Prop} {Item : Nat → AH → Option V → Prop} {body orelse : List Stmt} {pos : Pos} {H H' : AH} {Q : V → AH → Prop} {QF : Fl → AH → Prop}

noncomputable def TurnEnd (P : AH → Prop) (Q : Fl → AH → Prop) : Fl → AH → Prop
  | .next, H => P H
  | .cont, H => P H
  | .brk, H => Q .next H
  | .ret v, H => Q (.ret v) H
noncomputable def ForTurns (C C' : Cfg) (A : Around) (env : Env) (target : Expr) (body orelse : List Stmt) (Q : Fl → AH → Prop) (Item : Nat → AH → Option V → Prop) (H : AH) : Prop :=
  ∃ (I : Nat → AH → Prop) (N : Nat), I 0 H ∧ ∀ i H₁, I i H₁ → (∃ x, i < N ∧ Item i H₁ (some x) ∧ WPA C' A env target x (fun zz H₂ => WPS C' A env body (TurnEnd (I (i + 1)) Q) H₂) H₁) ∨ (Item i H₁ none ∧ WPS C A env orelse Q H₁)
noncomputable def KB (fp : List Addr) (H : AH) (s : Shared) (H' : AH) (s' : Shared) : Prop := ∀ b o, b ∉ fp → b ∉ keys H → s.heap.get? b = some o → s'.heap.get? b = some o ∧ b ∉ keys H'

inductive LSt (C' : Cfg) (fp wr : List Addr) (J : Nat → Heap → Prop) (I : Nat → AH → Prop) (N : Nat) (H : AH) (s : Shared) (n : Nat) (s' : Shared) : Prop
  | mk (i : Nat) (H₁ : AH) (hn : n = N + 1 - i) (hi : i ≤ N) (hI : I i H₁) (R : Rel C' H₁ s') (hJ : J i s'.heap) (hf : ∀ b ∈ fp, b ∉ keys H₁) (kb : KB wr H s H₁ s')
theorem KB.kept {wr : List Addr} {H H₁ H₂ : AH} {s s₁ s₂ : Shared} (kb : KB wr H s H₁ s₁) (k : Kept H₁ s₁ H₂ s₂) : KB wr H s H₂ s₂ := fun b o nf n e => k b o (kb b o nf n e).2 (kb b o nf n e).1
theorem KB.heap {wr : List Addr} {H H₁ : AH} {s s₁ : Shared} {h' : Heap} {t : Tok} (kb : KB wr H s H₁ s₁) (k : ∀ b o, b ∉ wr → s₁.heap.get? b = some o → h'.get? b = some o) : KB wr H s H₁ { s₁ with heap := h', toks := t } := fun b o nf n e => ⟨k b o nf (kb b o nf n e).1, (kb b o nf n e).2⟩
theorem TurnEnd.cases {a b : Prop} {d : Value → Prop} {X : List Addr} {h : Heap} {fl : Fl} {f : Flow} {I : AH → Prop} {Q : Fl → AH → Prop} {H : AH} (q : TurnEnd I Q fl H) (rf : FRel X h fl f) (h1 : I H → a) (h2 : Q .next H → b)
    (h3 : ∀ u w, Q (.ret u) H → VRel X h u w → d w) : match (generalizing := false) f with
      | .next | .cont => a
      | .brk => b
      | .ret v => d v := by
  cases fl with
  | next => cases rf; exact h1 q
  | cont => cases rf; exact h1 q
  | brk => cases rf; exact h2 q
  | ret u => exact E12 rf fun w e rw => e ▸ h3 u w q rw
theorem Src.turn {s s₁ : Shared} {l : List Addr} {I : Nat → AH → Prop} {N n : Nat} {P : Option Value → Shared → Prop} {X : Value → Shared → Prop} {Y : Shared → Prop} {E : Value → Shared → Prop} {W : Nat → AH → V → Prop} {Z : Nat → AH → Prop}
    (S : Src (C.hide l) A target it fp wr J Item) (hB : ∀ b ∈ wr, C.B.get? b = none) (hX : ∀ b ∈ wr, b ∉ C.X) (hl : ∀ b ∈ l, b ∈ wr) (L : LSt (C.hide l) fp wr J I N H s n s₁)
    (T : ∀ i H₁, i ≤ N → I i H₁ → (∃ x, i < N ∧ Item i H₁ (some x) ∧ W i H₁ x) ∨ (Item i H₁ none ∧ Z i H₁))
    (hx : ∀ i H₁ x v s₂, W i H₁ x → VRel (C.hide l).X s₂.heap x v → Rel (C.hide l) H₁ s₂ → (∀ H₃ s₅, Rel (C.hide l) H₃ s₅ → Kept H₁ s₂ H₃ s₅ → (I (i + 1) H₃ → ∃ m, m < n ∧ LSt (C.hide l) fp wr J I N H s m s₅) ∧ Rel C H₃ s₅ ∧ KB wr H s H₃ s₅) → X v s₂)
    (hy : ∀ i H₁ s₂, Z i H₁ → Rel C H₁ s₂ → KB wr H s H₁ s₂ → Y s₂) (pn : ∀ s, Y s → P none s) (ps : ∀ v s', wpAny (model C.prog C.w) A (letOwnedTupleGo target it v) (fun zz s => X v s) NoE s' → P (some v) s') :
    wpAny (model C.prog C.w) A (pyNext it) P E s₁ := by
  cases L with | mk i H₁ hn hi hI R₁ hJ₁ hf₁ kb =>
  refine (T i H₁ hi hI).elim (fun h => E13 h fun x hlt hit hw => ?_) fun h => ?_
  · refine wpAny_mono (S.item i H₁ s₁ x hJ₁ R₁ hf₁ hit) (fun r s₂ h₂ => E12 h₂ fun v e h₂ => e ▸ ps v s₂ (wpAny_mono h₂ (fun zz s₃ h₃ => E24 h₃ fun h' tk e rv hJ' kx => e ▸ ?_) fun zz zz e => e)) fun zz zz e => e.elim
    have R₂ := R₁.but (t := tk) (fun b hb => hf₁ b (S.sub b hb)) hB (fun b hb => S.nofz i _ hJ₁ b hb) (fun b hb => S.live _ _ hJ' b (S.sub b hb)) kx
    refine hx i H₁ x v _ hw rv R₂ fun H₃ s₅ R₄ kk => ?_
    have hf₅ : ∀ b ∈ fp, b ∉ keys H₃ := fun b hb => (S.live _ _ hJ' b hb).elim fun o e => (kk b o (hf₁ b hb) e).2
    have kb₅ := (kb.heap (t := tk) kx).kept kk
    exact ⟨fun q₃ => ⟨N + 1 - (i + 1), hn ▸ Nat.sub_lt_sub_left (Nat.lt_succ_of_le hi) (Nat.lt_succ_self i), i + 1, H₃, rfl, hlt, q₃, R₄, S.frame _ _ _ hJ' (kk.fz R₂) (fun b hb o e => (kk b o (hf₁ b hb) e).1), hf₅, kb₅⟩,
      R₄.unhide fun p hp q => hf₅ _ (S.sub _ (hl _ q)) (List.mem_map_of_mem hp), kb₅⟩
  · refine wpAny_mono (S.done i H₁ s₁ hJ₁ R₁ hf₁ h.1) (fun r s₂ h₂ => h₂.1 ▸ pn s₂ (E22 h₂.2 fun h' tk e k => e ▸ hy i H₁ _ h.2 ?_ (kb.heap k))) fun zz zz e => e.elim
    exact R₁.butUnhide (fun b hb => hf₁ b (S.sub b hb)) hB hX (fun p hp q => hf₁ _ (S.sub _ (hl _ q)) (List.mem_map_of_mem hp)) (fun b hb => S.nofz i _ hJ₁ b hb) k
theorem forLoop_gen {s : Shared} {l : List Addr} (S : Src (C.hide l) A target it fp wr J Item) (R : Rel (C.hide l) H s) (hJ : J 0 s.heap) (hfp : ∀ b ∈ fp, b ∉ keys H) (hB : ∀ b ∈ wr, C.B.get? b = none) (hX : ∀ b ∈ wr, b ∉ C.X) (hl : ∀ b ∈ l, b ∈ wr)
    (T : ForTurns C (C.hide l) A env target body orelse QF Item H) :
    codeAny (model C.prog C.w) A (.forLoop target it body orelse env) (fun r s' => match r with
      | .ok f => ∃ fl H', QF fl H' ∧ FRel C.X s'.heap fl f ∧ Rel C H' s' ∧ KB wr H s H' s'
      | .error e => False) s := by
  refine Exists.elim T fun I T => Exists.elim T fun N T => codeAny_forLoop_any (LSt (C.hide l) fp wr J I N H s) (fun n s₁ L => S.turn hB hX hl L (fun i H₁ zz => T.2 i H₁) (fun i H₁ x v s₂ hw rv R₂ go => ?_)
    (fun i H₁ s₂ hw R₂ kb => wpAny_mono (hw _ R₂) (fun f s₅ p53 => Post.el p53 fun fl H₃ q₃ rf R₄ k₄ => ⟨fl, H₃, q₃, rf, R₄, kb.kept k₄⟩) fun zz zz e => e.elim) (fun zz h => h) fun zz zz h => wpAny_mono h (fun zz zz h => h) fun zz zz e => e.elim) (N + 1)
    ⟨0, H, rfl, Nat.zero_le _, T.1, R, hJ, hfp, fun b o zz n e => ⟨e, n⟩⟩
  refine wpAny_mono (hw v _ rv R₂) (fun zz s₄ p51 => Post.el p51 fun zz H₂ q zz R₃ k₃ => wpAny_mono (q s₄ R₃) (fun f s₅ p52 => Post.el p52 fun fl H₃ q₃ rf R₄ k₄ => ?_) fun zz zz e => e.elim) fun zz zz e => e.elim
  have g := go H₃ s₅ R₄ (k₃.trans k₄)
  exact TurnEnd.cases q₃ rf (fun q => g.1 q) (fun q => ⟨.next, H₃, q, rfl, g.2⟩) fun u w q rw => ⟨.ret u, H₃, q, ⟨w, rfl, rw.chg unhide_t⟩, g.2⟩

inductive ItPost (C : Cfg) (A : Around) (target : Expr) (Q : Cfg → (Nat → AH → Option V → Prop) → AH → Prop) (H : AH) (s : Shared) (it : Value) (s' : Shared) : Prop
  | mk (l fp wr : List Addr) (J : Nat → Heap → Prop) (Item : Nat → AH → Option V → Prop) (H' : AH) (q : Q (C.hide l) Item H') (S : Src (C.hide l) A target it fp wr J Item) (hJ : J 0 s'.heap) (hk : ∀ b ∈ fp, b ∉ keys H')
      (hn : ∀ b ∈ wr, C.B.get? b = none ∧ (b ∈ keys H ∨ s.heap.get? b = none)) (hl : ∀ b ∈ l, b ∈ wr) (R : Rel (C.hide l) H' s') (k : Kept H s H' s')
theorem ItPost.elim {Q : Cfg → (Nat → AH → Option V → Prop) → AH → Prop} {s s' : Shared} {P : Prop} (h : ItPost C A target Q H s it s') (R : Rel C H s)
    (k : ∀ l fp wr J Item H', Q (C.hide l) Item H' → Src (C.hide l) A target it fp wr J Item → J 0 s'.heap → (∀ b ∈ fp, b ∉ keys H') → (∀ b ∈ wr, C.B.get? b = none) → (∀ b ∈ wr, b ∉ C.X) → (∀ b ∈ l, b ∈ wr) →
      Rel (C.hide l) H' s' → Kept H s H' s' → (∀ H₁ s₁ H₂ s₂, Kept H s H₁ s₁ → KB wr H₁ s₁ H₂ s₂ → Kept H s H₂ s₂) → P) : P := by
  cases h with | mk l fp wr J Item H' q S hJ hk hn hl R' k' =>
  refine k l fp wr J Item H' q S hJ hk (fun b hb => (hn b hb).1) (fun b hb q => ?_) hl R' k' fun H₁ s₁ H₂ s₂ k₁ kb b o n e => kb b o (fun q => ?_) (k₁ b o n e).2 (k₁ b o n e).1
  · exact (R.xl b q).2.elim fun o e => (hn b hb).2.elim (R.xl b q).1 fun h => by rw [h] at e; cases e
  · exact (hn b q).2.elim n fun h => by rw [h] at e; cases e
noncomputable def WPI (C : Cfg) (A : Around) (env : Env) (iter target : Expr) (Q : Cfg → (Nat → AH → Option V → Prop) → AH → Prop) (H : AH) : Prop :=
  ∀ s, Rel C H s → wpAny (model C.prog C.w) A (eval iter env) (fun v s₁ => wpAny (model C.prog C.w) A (pyIter v) (ItPost C A target Q H s) NoE s₁) NoE s

theorem WPI.mono {iter : Expr} {Q Q' : Cfg → (Nat → AH → Option V → Prop) → AH → Prop} (h : WPI C A env iter target Q H) (k : ∀ C' Item H', Q C' Item H' → Q' C' Item H') : WPI C A env iter target Q' H := fun s R =>
  wpAny_mono (h s R) (fun v s₁ h₁ => wpAny_mono h₁ (fun it s₂ p => by cases p with | mk l fp wr J Item H' q S hJ hk hn hl R k' => exact ⟨l, fp, wr, J, Item, H', k _ _ _ q, S, hJ, hk, hn, hl, R, k'⟩) fun zz zz e => e) fun zz zz e => e


theorem wp1_For {iter : Expr} (h : WPI C A env iter target (fun C' Item H₁ => ForTurns C C' A env target body orelse QF Item H₁) H) (hs : ∀ x, foldedSetIterable iter env x = pure x := by intro _; with_unfolding_all rfl) :
    WP1 C A env (.For target iter body orelse pos) QF H := fun s R => by
  refine wpAny_For (hs := hs) (wpAny_mono (h s R) (fun v s₁ h₁ => wpAny_mono h₁ (fun it s₂ h₂ => ItPost.elim h₂ R fun l fp wr J Item H₂ T S hJ hk hB hX hl R₂ k₂ kk => ?_) fun zz zz e => e.elim) fun zz zz e => e.elim)
  refine codeAny_mono (forLoop_gen S R₂ hJ hk hB hX hl T) fun r s₃ h₃ => ?_
  cases r with
  | error e => exact h₃.elim
  | ok f => exact E24 h₃ fun fl H₃ q rf R₃ kb => ⟨fl, H₃, q, rf, R₃, kk _ _ _ _ k₂ kb⟩

noncomputable def PI (C : Cfg) (A : Around) (target : Expr) (x : V) (Q : Cfg → (Nat → AH → Option V → Prop) → AH → Prop) (H : AH) : Prop :=
  ∀ v s, VRel C.X s.heap x v → Rel C H s → wpAny (model C.prog C.w) A (pyIter v) (ItPost C A target Q H s) NoE s
theorem ItPost.then {QI : Cfg → (Nat → AH → Option V → Prop) → AH → Prop} {s s₁ s₂ : Shared} {H₁ : AH} (k : Kept H s H₁ s₁) (h : ItPost C A target QI H₁ s₁ it s₂) : ItPost C A target QI H s it s₂ := by
  obtain ⟨l, fp, wr, J, Item, H', a1, a2, a3, a4, a5, a6, a7, a8⟩ := h
  refine ⟨l, fp, wr, J, Item, H', a1, a2, a3, a4, fun b hb => ⟨(a5 b hb).1, ?_⟩, a6, a7, k.trans a8⟩
  by_cases n : b ∈ keys H
  · exact .inl n
  · cases e : s.heap.get? b with
    | none => exact .inr rfl
    | some o =>
      obtain ⟨e', n'⟩ := k b o n e
      rcases (a5 b hb).2 with h | h
      · exact absurd h n'
      · rw [h] at e'; cases e'

theorem wpi_value {iter : Expr} {QI : Cfg → (Nat → AH → Option V → Prop) → AH → Prop} (h : WP C A (VRel C.X) (eval iter env) (fun x H₁ => PI C A target x QI H₁) H) : WPI C A env iter target QI H := fun s R =>
  wpAny_mono (h s R) (fun v s₁ p54 => Post.el p54 fun x H₁ q rv R₁ k => wpAny_mono (q v s₁ rv R₁) (fun zz zz p => p.then k) fun zz zz e => e) fun zz zz e => e
noncomputable def CI (C : Cfg) (A : Around) (target : Expr) (f : V) (args : List V) (Q : Cfg → (Nat → AH → Option V → Prop) → AH → Prop) (H : AH) : Prop :=
  ∀ fv avs s, VRel C.X s.heap f fv → VsRel C.X s.heap args avs → Rel C H s → KeepsOk (model C.prog C.w) A fv s ∧ wpAny (model C.prog C.w) A (call fv avs) (fun v s₁ => wpAny (model C.prog C.w) A (pyIter v) (ItPost C A target Q H s) NoE s₁) NoE s
theorem wpi_Call {x : Str} {np : Pos} {es : List Expr} {QI : Cfg → (Nat → AH → Option V → Prop) → AH → Prop}
    (h : WP C A (VRel C.X) (eval (.Name x np) env) (fun f H₁ => WPG C A env pos es (fun xs H₂ => CI C A target f xs QI H₂) H₁) H) : WPI C A env (.Call (.Name x np) es [] pos) target QI H := fun s R =>
  wpAny_Call_ofName (wpAny_mono (h s R) (fun fv s₁ p55 => Post.el p55 fun f H₁ q rf R₁ k => callWith_K q.1 (wpAny_mono (q.2 fv s₁ R₁) (fun a s₂ p56 => Post.el p56 fun xs H₂ q₂ p57 R₂ k₂ => p57.elim fun hk ra => by
    obtain ⟨h1, h2⟩ := q₂ fv a.pos s₂ (rf.fz (k₂.fz R₁)) ra R₂
    exact ⟨hk, h1, wpAny_mono h2 (fun zz zz p => wpAny_mono p (fun zz zz p => p.then (k.trans k₂)) fun zz zz e => e) fun zz zz e => e⟩) fun zz zz e => e)) fun zz zz e => e)

-- the sources
noncomputable def listItem (l : Addr) : Nat → AH → Option V → Prop := fun i H r => ∃ vs, (l, AO.list vs) ∈ H ∧ r = vs[i]?
theorem notFrozen_cls {X : List Addr} {a : Addr} {o : Obj} {T : String} (h : o.cls = .type T) (h1 : T ≠ "tuple") (h2 : T ≠ "code") : ¬ Frozen X a o := by
  rintro (⟨_, e, _⟩ | ⟨e, _⟩)
  · rw [h] at e; exact h1 (Value.type.inj e)
  · rw [h] at e; exact h2 (Value.type.inj e)
theorem PlainList.isList {h : Heap} {a : Addr} {items : Array Value} (x : h.PlainList a items) : h.IsList a items := let ⟨n, e⟩ := x; ⟨_, e, rfl, n, rfl⟩
theorem src_list {I l : Addr} (hA : A.handled = none) (hne : l ≠ I) (htup : ∀ (s : Shared) (i : Nat) (v : Value) (P : Unit → Shared → Prop), s.heap.IsListIter I l i → P () s → wpAny (model C.prog C.w) A (letOwnedTupleGo target (.ref I) v) P NoE s) :
    Src C A target (.ref I) [I] [I] (fun i h => h.IsListIter I l i) (listItem l) where
  sub := fun b h => h
  nofz := fun i h ⟨o, e, c, _⟩ b hb o' e' => by
    rw [List.mem_singleton.mp hb, e] at e'; cases e'; exact notFrozen_cls c (by decide) (by decide)
  live := fun i h ⟨o, e, _⟩ b hb => ⟨o, by rw [List.mem_singleton.mp hb]; exact e⟩
  frame := fun i h h' x zz k => x.at fun o e => k I (.head _) o e
  self := fun i s h => wpAny_pyIter_listiter h ⟨rfl, rfl⟩
  item := fun i H s x hJ R hf ⟨vs, hm, hx⟩ => by
    obtain ⟨items, pl, rv⟩ := R.objs _ hm
    obtain ⟨v, hv, rx⟩ := rv.get hx.symm
    refine wpAny_pyNext_list_item hJ (PlainList.isList pl) (by simpa using hv) fun h' hit' hs' => ⟨v, rfl, htup _ _ _ _ hit' ⟨h', s.toks, rfl, ?_, hit', fun b o n e => hs'.extBut b o (fun q => n (by simp [q])) e⟩⟩
    exact rx.fz fun a o e f => hs'.extBut a o (fun q => by
      obtain ⟨o', e', c, _⟩ := hJ
      rw [q, e'] at e; cases e
      exact notFrozen_cls c (by decide) (by decide) f) e
  done := fun i H s hJ R hf ⟨vs, hm, hx⟩ => by
    obtain ⟨items, pl, rv⟩ := R.objs _ hm
    have hz := rv.length
    have hlen := List.getElem?_eq_none_iff.mp hx.symm
    exact wpAny_pyNext_list_end hA hJ (PlainList.isList pl) (by rw [Array.getElem?_eq_none_iff, ← Array.length_toList, hz]; exact hlen) fun h' hs' => ⟨rfl, h', s.toks, rfl, fun b o n e => hs' b o (fun q => n (by simp [q])) e⟩

theorem letGo_skip {I : Addr} {o : Obj} {T : String} {vs : Array Value} {v : Value} {s : Shared} {P : Unit → Shared → Prop} {M : Model} {E : Value → Shared → Prop} (ho : s.heap.get? I = some o) (hc : o.cls = .type T) (hd : o.data = .fields vs)
    (hn : ["enumerate", "zip", "dict_itemiterator", "dict_reverseitemiterator", "odict_iterator", "itertools.zip_longest", "itertools.pairwise"].contains T = false) (h : P () s) : wpAny M A (letOwnedTupleGo target (.ref I) v) P E s := by
  have key : ∀ a, wpAny M A (do
      let o ← load I
      match o.cls, o.data with
      | .type n, .fields vs =>
        if (["enumerate", "zip", "dict_itemiterator", "dict_reverseitemiterator", "odict_iterator", "itertools.zip_longest", "itertools.pairwise"].contains n && vs[0]? == some (rawInt a)) = true then
          rule "for.unpacks-the-owned-tuple"
          updateField I 0 .none
        else pure ()
      | _, _ => pure () : Sem Unit) P E s := fun a => by
    refine wpAny_bind (wpAny_load ho ?_)
    rw [hc, hd]
    simp only [hn, Bool.false_and, Bool.false_eq_true, if_false]
    exact wpAny_pure h
  unfold letOwnedTupleGo
  cases target <;> first
    | exact wpAny_pure h
    | (cases v <;> first
        | exact wpAny_pure h
        | exact key _)

variable {QI : Cfg → (Nat → AH → Option V → Prop) → AH → Prop}
theorem pi_list {l : Addr} {vs : List V} (hA : A.handled = none) (hl : (l, AO.list vs) ∈ H) (q : QI C (listItem l) H) : PI C A target (.ref l) QI H := fun v s rv R => by
  simp only [VRel] at rv; subst rv
  obtain ⟨items, pl, rvs⟩ := R.objs _ hl
  have hlt : l < s.heap.objs.size := by obtain ⟨n, e⟩ := pl; exact Heap.lt_size e
  refine wpAny_pyIter_list (PlainList.isList pl) ?_
  have ext : ∀ b o, s.heap.get? b = some o → (s.heap.push { cls := .type "list_iterator", data := .fields #[.ref l, .int 0 0] }).get? b = some o := fun b o e => Heap.get?_push_of_some _ e
  exact ⟨[], _, _, _, _, H, q, src_list (C := C) hA (Nat.ne_of_lt hlt) (fun s' i v' P hit hp => let ⟨o, ho, hc, hd⟩ := hit; letGo_skip ho hc hd (by decide) hp), ⟨_, Heap.get?_push_size _ rfl, rfl, rfl⟩,
    fun b hb => by rw [List.mem_singleton.mp hb]; exact R.newAddr, fun b hb => by rw [List.mem_singleton.mp hb]; exact ⟨R.baseNew (Nat.le_refl _), .inr (Heap.get?_none_of_le (Nat.le_refl _))⟩, fun b hb => (nomatch hb), R.ext (t := s.toks) ext, kept_of_ext (t := s.toks) ext⟩

noncomputable def fnItem (n : Nat) (f : Nat → V) : Nat → AH → Option V → Prop := fun i zz r => r = if i < n then some (f i) else none
theorem src_walks {I : Addr} {n : Nat} {P : Nat → Value → Prop} {St : Nat → Heap → Prop} {f : Nat → V} {T : String} (W : Walks C.prog C.w A I [I] [I] n P St) (hP : ∀ i v h, P i v → VRel C.X h (f i) v)
    (hS : ∀ i h, St i h → ∃ o vs, h.get? I = some o ∧ o.cls = .type T ∧ o.data = .fields vs) (h1 : T ≠ "tuple") (h2 : T ≠ "code")
    (hn : ["enumerate", "zip", "dict_itemiterator", "dict_reverseitemiterator", "odict_iterator", "itertools.zip_longest", "itertools.pairwise"].contains T = false) :
    Src C A target (.ref I) [I] [I] (fun i h => i ≤ n ∧ St i h) (fnItem n f) where
  sub := fun b h => h
  nofz := fun i h ⟨_, st⟩ b hb o' e' => by
    obtain ⟨o, vs, e, c, _⟩ := hS i h st
    rw [List.mem_singleton.mp hb, e] at e'; cases e'; exact notFrozen_cls c h1 h2
  live := fun i h ⟨_, st⟩ b hb => let ⟨o, vs, e, _⟩ := hS i h st; ⟨o, by rw [List.mem_singleton.mp hb]; exact e⟩
  frame := fun i h h' ⟨hi, st⟩ _ k => ⟨hi, W.frame i h h' st k⟩
  self := fun i s ⟨hi, st⟩ => W.self i s _ _ st ⟨rfl, rfl⟩
  item := fun i H s x ⟨hi, st⟩ R hf hx => by
    have hlt : i < n := Nat.lt_of_not_le fun q => by rw [fnItem, if_neg (by exact Nat.not_lt.mpr q)] at hx; cases hx
    rw [fnItem, if_pos hlt] at hx; cases hx
    refine W.item i s _ _ hlt st fun v h' tk p st' k => ⟨v, rfl, ?_⟩
    obtain ⟨o, vs, e, c, d⟩ := hS _ h' st'
    exact letGo_skip (s := { s with heap := h', toks := tk }) e c d hn ⟨h', tk, rfl, hP i v h' p, ⟨hlt, st'⟩, k⟩
  done := fun i H s ⟨hi, st⟩ R hf hx => by
    have hge : ¬ i < n := fun q => by rw [fnItem, if_pos q] at hx; cases hx
    obtain rfl : i = n := by lia
    exact W.done s _ _ st fun h' tk k => ⟨rfl, h', tk, rfl, k⟩

theorem itPost_one {s : Shared} {o : Obj} {J : Nat → Heap → Prop} {Item : Nat → AH → Option V → Prop} {h₀ : Heap} {tk : Tok} (R : Rel C H s) (k₀ : ∀ b o, s.heap.get? b = some o → h₀.get? b = some o) (hz : s.heap.objs.size ≤ h₀.objs.size)
    (S : Src C A target (.ref h₀.objs.size) [h₀.objs.size] [h₀.objs.size] J Item) (hJ : J 0 (h₀.push o)) (q : QI C Item H) :
    ItPost C A target QI H s (.ref h₀.objs.size) { s with heap := h₀.push o, toks := tk } := by
  have ext : ∀ b o', s.heap.get? b = some o' → (h₀.push o).get? b = some o' := fun b o' e => Heap.get?_push_of_some _ (k₀ b o' e)
  exact ⟨[], _, _, J, Item, H, q, S, hJ,
    fun b hb => by rw [List.mem_singleton.mp hb]; exact fun h => absurd (R.lt h) (Nat.not_lt.mpr hz), fun b hb => by rw [List.mem_singleton.mp hb]; exact ⟨R.baseNew hz, .inr (Heap.get?_none_of_le hz)⟩,
    fun b hb => (nomatch hb), R.ext ext, kept_of_ext ext⟩

noncomputable def rangeLen (a b c : Int) : Nat := (Builtin.Range.rangeSize a b c).toNat
noncomputable abbrev rangeItem (a b c : Int) := fnItem (rangeLen a b c) (fun i => .int (a + i * c))
theorem rangeSize_nonneg {a b c : Int} (hc : c ≠ 0) : 0 ≤ Builtin.Range.rangeSize a b c := by
  unfold Builtin.Range.rangeSize
  split <;> split
  · have := Int.ediv_nonneg (a := b - a - 1) (b := c) (by lia) (by lia); exact Int.le_add_one this
  · exact Int.zero_le_ofNat 0
  · have := Int.ediv_nonneg (a := a - b - 1) (b := -c) (by lia) (by lia); exact Int.le_add_one this
  · exact Int.zero_le_ofNat 0
theorem iter_range {s s₀ : Shared} {r : Addr} {a b c : Int} {t u v : Tok} (hA : A.handled = none) (hc : c ≠ 0) (hsm : Builtin.Range.small a b c = true) (R : Rel C H s₀)
    (k₀ : ∀ b o, s₀.heap.get? b = some o → s.heap.get? b = some o) (hz : s₀.heap.objs.size ≤ s.heap.objs.size) (hs : ∃ h tk, s = { s₀ with heap := h, toks := tk }) (hr : IsRange s.heap r a b c t u v) (q : QI C (rangeItem a b c) H) :
    wpAny (model C.prog C.w) A (pyIter (.ref r)) (ItPost C A target QI H s₀) NoE s := by
  obtain ⟨h, tk, rfl⟩ := hs
  refine wpAny_pyIter_range hr hsm ?_
  have hn : ((rangeLen a b c : Nat) : Int) = Builtin.Range.rangeSize a b c := Int.toNat_of_nonneg (rangeSize_nonneg hc)
  have W := Walks.range (prog := C.prog) (w := C.w) hA h.objs.size a c (rangeLen a b c)
  refine itPost_one (o := { cls := .type "range_iterator", data := .fields #[rawInt a, rawInt (Builtin.Range.rangeSize a b c), rawInt c] }) R k₀ hz (src_walks (T := "range_iterator") (f := fun i => .int (a + i * c)) W (fun i v h ⟨t, e⟩ => by simp only [VRel]; exact ⟨t, e⟩) (fun i h st => ⟨_, _, st, rfl, rfl⟩) (by decide) (by decide) (by decide)) ⟨Nat.zero_le _, ?_⟩ q
  have := Heap.get?_push_size h (o := { cls := .type "range_iterator", data := .fields #[rawInt a, rawInt (Builtin.Range.rangeSize a b c), rawInt c] }) rfl
  show (h.push _).get? _ = _
  rw [this, hn]
  simp
end
end
noncomputable section
theorem Pick.mem {p : Addr × AO} {H H' : AH} (x : Pick p H H') : p ∈ H := by
  induction x with
  | head => exact .head _
  | tail _ ih => exact .tail _ ih
theorem Sub.of_pick {p : Addr × AO} {H H' : AH} (x : Pick p H H') : Sub H' H := by
  induction x with
  | head => exact .drop (.refl _)
  | tail _ ih => exact .pick .head ih

section
variable {C C' : Cfg} {gl : List (Str × V)} {A : Around} {env : Env} {pos : Pos} {test : Expr} {body orelse : List Stmt} {H H' : AH} {Q : V → AH → Prop} {QF : Fl → AH → Prop} {QB : Bool → AH → Prop}

inductive WSt (C : Cfg) (I : Nat → AH → Prop) (N : Nat) (H : AH) (s : Shared) (n : Nat) (s' : Shared) : Prop
  | mk (i : Nat) (H₁ : AH) (hn : n = N + 1 - i) (hi : i ≤ N) (hI : I i H₁) (R : Rel C H₁ s') (k : Kept H s H₁ s')
theorem wp1_While (I : Nat → AH → Prop) (N : Nat) (h0 : I 0 H)
    (h : ∀ i H₁, i ≤ N → I i H₁ → WPB C A env test (fun t H₂ => (t = true → i < N ∧ WPS C A env body (TurnEnd (I (i + 1)) QF) H₂) ∧ (t = false → WPS C A env orelse QF H₂)) H₁) :
    WP1 C A env (.While test body orelse pos) QF H := fun s R => by
  refine wpAny_While (codeAny_mono (codeAny_whileLoop (R := fun r s' => match r with
      | .ok f => Post C (FRel C.X) QF H s f s' | .error e => False)
    (WSt C I N H s) (fun n s₁ L => ?_) (N + 1) ⟨0, H, rfl, Nat.zero_le _, h0, R, Kept.refl _ _⟩) fun r s₃ h₃ => ?_)
  · cases L with | mk i H₁ hn hi hI R₁ k₁ =>
    refine wpAny_mono (h i H₁ hi hI s₁ R₁) (fun b s₂ p69 => Post.el p69 fun t H₂ q rt R₂ k₂ => ?_) fun zz zz e => e.elim
    cases rt
    cases b with
    | false => exact wpAny_mono (q.2 rfl s₂ R₂) (fun f s₃ p => post_then k₁ (post_then k₂ p)) fun zz zz e => e.elim
    | true =>
      refine wpAny_mono ((q.1 rfl).2 s₂ R₂) (fun f s₃ p70 => Post.el p70 fun fl H₃ q₃ rf R₃ k₃ => ?_) fun zz zz e => e.elim
      have kk := k₁.trans (k₂.trans k₃)
      have g : I (i + 1) H₃ → ∃ m, m < n ∧ WSt C I N H s m s₃ := fun q₃ => ⟨N + 1 - (i + 1), hn ▸ Nat.sub_lt_sub_left (Nat.lt_succ_of_le hi) (Nat.lt_succ_self i), i + 1, H₃, rfl, (q.1 rfl).1, q₃, R₃, kk⟩
      exact TurnEnd.cases q₃ rf g (fun q => ⟨.next, H₃, q, rfl, R₃, kk⟩) fun u w q rw => ⟨.ret u, H₃, q, ⟨w, rfl, rw⟩, R₃, kk⟩
  · cases r with
    | error e => exact h₃.elim
    | ok f => exact h₃

-- list comprehensions
theorem compLoop_tests {elt target iter : Expr} {ifs : List Expr} {scope : Scope} {pos : Pos} {it acc : Value} {env : Env} {prog : Program} {w : World} {R : Result → Shared → Prop} {s : Shared} (I : Nat → Shared → Prop)
    (turn : ∀ n s, I n s → wpAny (model prog w) A (pyNext it) (fun r s₁ => match r with
      | none => R (.ok .next) s₁
      | some v => wpAny (model prog w) A (letOwnedTupleGo target it v) (fun zz s₁ => wpAny (model prog w) A (assign target env v) (fun zz s₂ =>
          wpAny (model prog w) A (forIn ifs true fun c r => if r = true then do let ok ← isTrue c env (eval c env); pure (ForInStep.yield ok) else pure (ForInStep.yield r)) (fun ok s₃ =>
            if ok = true then wpAny (model prog w) A (eval elt env) (fun x s₄ =>
              wpAny (model prog w) A (call (.builtin "list.append") [acc, x]) (fun _ s₅ => ∃ m, m < n ∧ I m s₅) NoE s₄) NoE s₃
            else ∃ m, m < n ∧ I m s₃) NoE s₂) NoE s₁) NoE s₁) NoE s)
    (n : Nat) (h : I n s) :
    codeAny (model prog w) A (.compLoop (.ListComp elt [⟨target, iter, ifs, 0⟩] scope pos) 0 it acc env) R s := by
  refine codeAny_loop rfl I (fun n s hI => ?_) n h
  show wpAny _ A ((compTurn (.ListComp elt [⟨target, iter, ifs, 0⟩] scope pos) 0 it acc env).onRaise (fun x => do noteFrame x env; theTreesLotGoes x)) _ _ s
  refine wpAny_noted ?_
  rw [compTurn_list]
  refine wpAny_bind (wpAny_standAt (wpAny_bind (wpAny_mono (turn n s hI) (fun r s₁ h₁ => ?_) fun zz zz h' => h'.elim)))
  cases r with
  | none => exact wpAny_pure h₁
  | some v =>
    refine wpAny_bind (wpAny_mono h₁ (fun zz s₂ h₁ => ?_) fun zz zz h' => h'.elim)
    refine wpAny_bind (wpAny_mono h₁ (fun zz s₂ h₂ => wpAny_bind (wpAny_mono h₂ (fun ok s₃ h₃ => ?_) fun zz zz h' => h'.elim)) fun zz zz h' => h'.elim)
    cases ok with
    | false => exact wpAny_pure ⟨rfl, h₃⟩
    | true =>
      exact wpAny_bind (wpAny_bind (wpAny_mono h₃ (fun x s₄ h₄ => wpAny_bind (wpAny_mono h₄ (fun _ s₅ h₅ => wpAny_pure (wpAny_pure ⟨rfl, h₅⟩)) fun zz zz h' => h'.elim)) fun zz zz h' => h'.elim))

noncomputable abbrev WPT (C : Cfg) (A : Around) (env : Env) (ifs : List Expr) (Q : Bool → AH → Prop) (H : AH) : Prop :=
  WP C A BRel (forIn ifs true fun c r => if r = true then do let ok ← isTrue c env (eval c env); pure (ForInStep.yield ok) else pure (ForInStep.yield r)) Q H
theorem wpt_nil (h : QB true H) : WPT C A env [] QB H := fun zz R => wpAny_tests_nil (post_id R rfl h)
theorem wpt_one {c : Expr} (h : WPB C A env c QB H) : WPT C A env [c] QB H := fun s R => wpAny_tests_one (h s R)

noncomputable def CompTurns (C C' : Cfg) (A : Around) (cenv : Env) (target : Expr) (ifs : List Expr) (elt : Expr) (a : Addr) (Item : Nat → AH → Option V → Prop) (Fin : List V → AH → Prop) (H : AH) : Prop :=
  ∃ (I : Nat → List V → AH → Prop) (N : Nat), I 0 [] H ∧ ∀ i acc H₁, i ≤ N → I i acc H₁ →
    (∃ x, i < N ∧ Item i H₁ (some x) ∧ WPA C' A cenv target x (fun zz H₂ => WPT C' A cenv ifs (fun ok H₃ =>
      (ok = true → WP C' A (VRel C'.X) (eval elt cenv) (fun y H₄ => acc.length ≤ 100000 ∧ ∃ H₅, Upd a (.list acc) (.list (acc ++ [y])) H₄ H₅ ∧ I (i + 1) (acc ++ [y]) H₅) H₃) ∧
      (ok = false → I (i + 1) acc H₃)) H₂) H₁) ∨ (Item i H₁ none ∧ Fin acc H₁)

theorem compLoop_gen {elt target iter : Expr} {ifs : List Expr} {scope : Scope} {it : Value} {a : Addr} {Item : Nat → AH → Option V → Prop} {fp wr : List Addr} {J : Nat → Heap → Prop} {s : Shared} {l : List Addr} {Fin : List V → AH → Prop}
    (S : Src (C.hide l) A target it fp wr J Item) (R : Rel (C.hide l) H s) (hJ : J 0 s.heap) (hfp : ∀ b ∈ fp, b ∉ keys H) (hB : ∀ b ∈ wr, C.B.get? b = none) (hX : ∀ b ∈ wr, b ∉ C.X) (hl : ∀ b ∈ l, b ∈ wr)
    (T : CompTurns C (C.hide l) A env target ifs elt a Item Fin H) :
    codeAny (model C.prog C.w) A (.compLoop (.ListComp elt [⟨target, iter, ifs, 0⟩] scope pos) 0 it (.ref a) env) (fun r s' => r = .ok .next ∧ ∃ acc H', Fin acc H' ∧ Rel C H' s' ∧ KB wr H s H' s') s := by
  refine Exists.elim T fun I T => Exists.elim T fun N T => compLoop_tests (LSt (C.hide l) fp wr J (fun i H => ∃ acc, I i acc H) N H s) (fun n s₁ L => S.turn (W := fun i H₁ x => ∃ acc : List V, _) (Z := fun zz H₁ => ∃ acc, Fin acc H₁) hB hX hl L (fun i H₁ hi h => h.elim fun acc hI =>
      (T.2 i acc H₁ hi hI).imp (fun h => E13 h fun x a b c => ⟨x, a, b, acc, c⟩) fun h => ⟨h.1, acc, h.2⟩) (fun i H₁ x v s₂ hw rv R₂ go => Exists.elim hw fun acc hw => ?_)
    (fun i H₁ s₂ hw R₂ kb => ⟨rfl, hw.elim fun acc hw => ⟨acc, H₁, hw, R₂, kb⟩⟩) (fun zz h => h) fun zz zz h => h) (N + 1)
    ⟨0, H, rfl, Nat.zero_le _, ⟨[], T.1⟩, R, hJ, hfp, fun b o zz n e => ⟨e, n⟩⟩
  refine wpAny_mono (hw v _ rv R₂) (fun zz s₄ p71 => Post.el p71 fun zz H₂ q zz R₃ k₃ => wpAny_mono (q s₄ R₃) (fun ok s₅ p72 => Post.el p72 fun t H₃ q₃ rt R₄ k₄ => ?_) fun zz zz e => e.elim) fun zz zz e => e.elim
  cases rt
  cases ok with
  | false => exact (go H₃ s₅ R₄ (k₃.trans k₄)).1 ⟨_, q₃.2 rfl⟩
  | true =>
    refine wpAny_mono (q₃.1 rfl s₅ R₄) (fun y s₆ p73 => Post.el p73 fun y' H₄ q₄ ry R₅ k₅ => E12 q₄.2 fun H₅ hu q₅ => E12 (R₅.objs _ hu.mem) fun items pl rvs => ?_) fun zz zz e => e.elim
    refine wpAny_list_append_plain pl (fun h₆ pl' hs' => ?_) (by rw [← Array.length_toList, rvs.length, sizeLine_eq]; exact Nat.le_trans q₄.1 (by decide))
    have hf : Fz (C.hide l).X s₆.heap h₆ := fun b o e f => hs'.extBut b o (fun q => R₅.notin e f (q ▸ List.mem_map_of_mem (f := Prod.fst) hu.mem)) e
    have R₆ := R₅.upd hu (h' := h₆) (t := s₆.toks) (fun b o n e => hs'.extBut b o n e) ⟨_, pl', by rw [Array.toList_push]; exact (rvs.fz hf).append (.cons (ry.fz hf) .nil)⟩
    exact (go H₅ _ R₆.1 (((k₃.trans k₄).trans k₅).trans R₆.2)).1 ⟨_, q₅⟩

theorem pick_nd {p : Addr × AO} {H H' : AH} (x : Pick p H H') (nd : (keys H).Nodup) : p.1 ∉ keys H' := by
  have h := (x.perm.map Prod.fst).nodup_iff.mp nd
  exact (List.nodup_cons.mp (by simpa using h)).1

theorem Rel.butX {s : Shared} (R : Rel C H s) {wr : List Addr} (hk : ∀ b ∈ wr, b ∉ keys H) (hB : ∀ b ∈ wr, C.B.get? b = none) (hfz : ∀ b ∈ wr, ∀ o, s.heap.get? b = some o → ¬ Frozen C.X b o) {h' : Heap} {t : Tok}
    (hl : ∀ b ∈ wr, b ∉ C.X) (k : ∀ b o, b ∉ wr → s.heap.get? b = some o → h'.get? b = some o) : Rel C H { s with heap := h', toks := t } where
  keep := fun b o e => k b o (fun q => by rw [hB b q] at e; cases e) (R.keep b o e)
  gens := R.gens
  os := R.os
  nd := R.nd
  fresh := R.fresh
  objs := fun p hp => (R.objs p hp).move (fun a o e f => k a o (fun q => hfz a q o e f) e) fun o e => k _ o (fun q => hk _ q (List.mem_map_of_mem hp)) e
  xl := fun a ha => by
    obtain ⟨n, o, e⟩ := R.xl a ha
    exact ⟨n, o, k a o (fun q => hl a q ha) e⟩

theorem comp_go {s : Shared} {cn : Addr} {ln : List Str} {vals : List (Option V)} {H₁ H₂ : AH} (R : Rel C H₁ s) (p : Pick (cn, .ns ln vals) H₁ H₂) {h' : Heap} (hs : Heap.SameBut cn s.heap h') :
    Rel C H₂ { s with heap := h' } ∧ Kept H₁ s H₂ { s with heap := h' } := by
  have R₂ := R.sub (Sub.of_pick p)
  have hk := pick_nd p R.nd
  refine ⟨R₂.butX (wr := [cn]) (t := s.toks) (fun b hb => by rw [List.mem_singleton.mp hb]; exact hk) (fun b hb => by rw [List.mem_singleton.mp hb]; exact R.fresh _ p.mem) (fun b hb o e => ?_) (fun b hb => ?_) fun b o n e => hs.extBut b o (fun q => n (by simp [q])) e, fun b o n e => ?_⟩
  · rw [List.mem_singleton.mp hb] at e ⊢
    obtain ⟨o', e', n⟩ := (R.objs _ p.mem).live
    simp only [] at e'
    rw [e] at e'; cases e'; exact n
  · rw [List.mem_singleton.mp hb]
    exact fun q => (R.xl _ q).1 (List.mem_map_of_mem (f := Prod.fst) p.mem)
  · have hne : b ≠ cn := fun q => n (q ▸ List.mem_map_of_mem (f := Prod.fst) p.mem)
    exact ⟨hs.extBut b o hne e, fun h => n ((Sub.of_pick p).kmem h)⟩

theorem nones_rel {X : List Addr} {h : Heap} {m : Str → Option Value} : ∀ {ln : List Str}, NsRel X h m ln (ln.map fun zz => none)
  | [] => rfl
  | _ :: ln => ⟨none, _, rfl, fun zz e => (nomatch e), nones_rel⟩

theorem cframe {C' : Cfg} {target : Expr} {it : Value} {fp wr : List Addr} {J : Nat → Heap → Prop} {Item : Nat → AH → Option V → Prop} {s : Shared} {o : Obj} {x : AO} {h₁ : Heap} {ln : List Str} {m : Str → Option Value} {t : Tok} {P : Prop} (S : Src C' A target it fp wr J Item) (R : Rel C' H s) (hJ : J 0 s.heap)
    (ho : o.isFreed = false) (hk : ∀ b ∈ fp, b ∉ keys H) (hx : ∀ h : Heap, h.get? s.heap.objs.size = some o → ORel C'.X h s.heap.objs.size x) (nd : ln.Nodup) (hns : h₁.Ns (s.heap.push o).objs.size m) (ext₂ : ∀ b u, (s.heap.push o).get? b = some u → h₁.get? b = some u)
    (k : Rel C' (((s.heap.push o).objs.size, .ns ln (ln.map fun zz => none)) :: (s.heap.objs.size, x) :: H) { s with heap := h₁, toks := t } → J 0 h₁ →
      (∀ b ∈ fp, b ∉ keys (((s.heap.push o).objs.size, .ns ln (ln.map fun zz => none)) :: (s.heap.objs.size, x) :: H)) →
      Kept H s (((s.heap.push o).objs.size, .ns ln (ln.map fun zz => none)) :: (s.heap.objs.size, x) :: H) { s with heap := h₁, toks := t } → P) : P := by
  have ext₁ : ∀ b u, s.heap.get? b = some u → (s.heap.push o).get? b = some u := fun b u e => Heap.get?_push_of_some _ e
  have kk : Kept H s (((s.heap.push o).objs.size, .ns ln (ln.map fun zz => none)) :: (s.heap.objs.size, x) :: H) { s with heap := h₁, toks := t } :=
    (kept_add (t := s.toks) ext₁ (Nat.le_refl _)).trans (kept_add (s := { s with heap := s.heap.push o }) (t := t) ext₂ (Nat.le_refl _))
  exact k ((R.add (t := s.toks) ext₁ (Nat.le_refl _) (hx _ (Heap.get?_push_size _ ho))).add (t := t) ext₂ (Nat.le_refl _) ⟨nd, _, hns, nones_rel⟩)
    (S.frame 0 _ _ hJ (fz_of_ext fun b o e => ext₂ _ _ (ext₁ _ _ e)) fun b hb o e => ext₂ _ _ (ext₁ _ _ e)) (fun b hb => (S.live 0 s.heap hJ b hb).elim fun o e => (kk b o (hk b hb) e).2) kk
theorem comp_gen {elt target iter : Expr} {ifs : List Expr} {scope : Scope} {cl : List (Str × Addr)} {use : Option (Value → Sem Unit)} {ln : List Str} {Fin : Addr → Addr → List V → AH → Prop} {QQ : Value → Shared → Prop} {s : Shared} {fpos : Pos}
    (R : Rel C H s) (hclos : closureFor scope env = pure cl) (hcell : ∀ x ∈ scope.names, x.2 ≠ .cell) (hkind : scope.kind = .function) (hnames : ∀ x ∈ scope.names, x.2 = .local → scope.names.lookup x.1 = some .local) (nd : ln.Nodup)
    (h : WPI C A env iter target (fun C' Item H₁ => ∀ a cn, CompTurns C C' A (compEnvC scope cl cn env) target ifs elt a Item (Fin a cn) ((cn, .ns ln (ln.map fun zz => none)) :: (a, .list []) :: H₁)) H)
    (hfin : ∀ a cn acc H₁ s', Fin a cn acc H₁ → Rel C H₁ s' → Kept H s H₁ s' → compPost (model C.prog C.w) A NoE use QQ (.ref a) cn (.ok .next) s')
    (hs : ∀ x, foldedSetIterable iter env x = pure x := by intro _; with_unfolding_all rfl) :
    wpAny (model C.prog C.w) A (comprehension (.ListComp elt [⟨target, iter, ifs, 0⟩] scope pos) scope env fpos (newList []) false (eval iter env) use) QQ NoE s := by
  refine wpAny_comprehension_free rfl hs hclos hkind hnames (wpAny_mono (h s R) (fun v s₁ h₁ => wpAny_mono h₁ (fun it s₂ h₂ => ?_) fun zz zz e => e) fun zz zz e => e)
  refine ItPost.elim h₂ R fun l fp wr J Item H₂ T S hJ hk hB hX hl R₂ k₂ kk => ?_
  refine wpAny_newObj_type (wpAny_newFunctionEnv hcell (by intro y hy; simp at hy) (fun h₁ hns hsb => ?_) hkind) (by size_fits)
  refine cframe (t := s₂.toks + 0) (x := .list []) S R₂ hJ rfl hk (fun h e => ⟨#[], ⟨0, e⟩, VsRel.nil⟩) nd hns (fun b o e => hsb.extBut b o (Nat.ne_of_lt (Heap.lt_size e)) (Heap.get?_push_of_some _ e)) fun R₄ hJ₁ hf₁ k₄ => ?_
  have loop' := codeAny_mono (compLoop_gen (scope := scope) (pos := pos) (iter := iter) (env := compEnvC scope cl _ env) S R₄ hJ₁ hf₁ hB hX hl (T _ _)) fun r s₅ h₅ => h₅.1 ▸ E23 h₅.2 fun acc H₅ hF R₅ kb => hfin _ _ acc H₅ s₅ hF R₅ (kk _ _ _ _ (k₂.trans k₄) kb)
  exact codeAny_compStart_list loop' (wpAny_mono (S.self 0 _ hJ₁) (fun r s' e => e.1 ▸ e.2 ▸ loop') fun zz zz e => e.elim)

theorem wp_ListComp {elt target iter : Expr} {ifs : List Expr} {scope : Scope} {cl : List (Str × Addr)} {ln : List Str}
    (hclos : closureFor scope env = pure cl) (hcell : ∀ x ∈ scope.names, x.2 ≠ .cell) (hkind : scope.kind = .function) (hnames : ∀ x ∈ scope.names, x.2 = .local → scope.names.lookup x.1 = some .local) (nd : ln.Nodup)
    (h : WPI C A env iter target (fun C' Item H₁ => ∀ a cn, CompTurns C C' A (compEnvC scope cl cn env) target ifs elt a Item
      (fun acc H₂ => ∃ vals H₃, Pick (cn, .ns ln vals) H₂ H₃ ∧ Q (.ref a) H₃) ((cn, .ns ln (ln.map fun zz => none)) :: (a, .list []) :: H₁)) H)
    (hs : ∀ x, foldedSetIterable iter env x = pure x := by intro _; with_unfolding_all rfl) :
    WP C A (VRel C.X) (eval (.ListComp elt [⟨target, iter, ifs, 0⟩] scope pos) env) Q H := fun s R => by
  rw [eval_ListComp]
  refine comp_gen (use := none) R hclos hcell hkind hnames nd h (fun a cn acc H₁ s' ⟨vals, H₃, p, q⟩ R₁ k₁ => ?_) hs
  obtain ⟨_, m, hn, _⟩ := R₁.objs _ p.mem
  refine ⟨m, hn, fun h' hs' => ?_⟩
  obtain ⟨R₂, k₂⟩ := comp_go R₁ p hs'
  exact ⟨.ref a, H₃, q, rfl, R₂, k₁.trans k₂⟩

theorem wp1_Assign_ListComp {elt target iter : Expr} {ifs : List Expr} {scope : Scope} {cl : List (Str × Addr)} {ln : List Str} {y : Str} {py spos : Pos}
    (hsw : swapsWith (.ListComp elt [⟨target, iter, ifs, 0⟩] scope pos) (some (.Name y py)) spos.line env = pure true)
    (hclos : closureFor scope env = pure cl) (hcell : ∀ x ∈ scope.names, x.2 ≠ .cell) (hkind : scope.kind = .function) (hnames : ∀ x ∈ scope.names, x.2 = .local → scope.names.lookup x.1 = some .local) (nd : ln.Nodup)
    (h : WPI C A env iter target (fun C' Item H₁ => ∀ a cn, CompTurns C C' A (compEnvC scope cl cn env) target ifs elt a Item
      (fun acc H₂ => Op1 C A URel (storeName env y) (.ref a) (fun zz H₃ => ∃ vals H₄, Pick (cn, .ns ln vals) H₃ H₄ ∧ QF .next H₄) H₂) ((cn, .ns ln (ln.map fun zz => none)) :: (a, .list []) :: H₁)) H)
    (hs : ∀ x, foldedSetIterable iter env x = pure x := by intro _; with_unfolding_all rfl) :
    WP1 C A env (.Assign [.Name y py] (.ListComp elt [⟨target, iter, ifs, 0⟩] scope pos) spos) QF H := fun s R => by
  rw [exec_Assign_Name_used _ _ _ _ hsw]
  refine wpAny_bind (wpAny_standAt (wpAny_bind ?_))
  show wpAny _ A (do let _ ← comprehension (.ListComp elt [⟨target, iter, ifs, 0⟩] scope pos) scope env _ (newList []) false (eval iter env) (some (assign (.Name y py) env))) _ _ s
  refine wpAny_bind (wpAny_mono (comp_gen (use := some (assign (.Name y py) env)) (QQ := fun zz s' => ∃ H₄, QF .next H₄ ∧ Rel C H₄ s' ∧ Kept H s H₄ s') R hclos hcell hkind hnames nd h (fun a cn acc H₁ s' q R₁ k₁ => ?_) hs)
    (fun _ s' ⟨H₄, q, R₄, k₄⟩ => wpAny_pure (wpAny_pure ⟨.next, H₄, q, rfl, R₄, k₄⟩)) fun zz zz e => e)
  refine wpAny_assign_Name (wpAny_mono (q (.ref a) s' rfl R₁) (fun _ s₂ ⟨_, H₃, ⟨vals, H₄, p, q₄⟩, _, R₃, k₃⟩ => ?_) fun zz zz e => e)
  obtain ⟨_, m, hn, _⟩ := R₃.objs _ p.mem
  refine ⟨m, hn, fun h' hs' => ?_⟩
  obtain ⟨R₂, k₂⟩ := comp_go R₃ p hs'
  exact ⟨H₄, q₄, R₂, (k₁.trans k₃).trans k₂⟩
end
end
noncomputable section
section
variable {C C' : Cfg} {gl : List (Str × V)} {A : Around} {env : Env} {pos tpos : Pos} {H H' : AH} {Q : V → AH → Prop} {QF : Fl → AH → Prop} {QB : Bool → AH → Prop} {QU : Unit → AH → Prop}

theorem wp1_Assign {t value : Expr} (h : WP C A (VRel C.X) (eval value env) (fun v H₁ => WPA C A env t v (fun zz H₂ => QF .next H₂) H₁) H)
    (hs : swapsWithSole [t] value pos.line env = pure false := by with_unfolding_all rfl) (hw : swappedStores [t] value env = pure none := by with_unfolding_all rfl)
    (he : (assignEach [t] env).map (·.2) = [assign t env] := by with_unfolding_all rfl) : WP1 C A env (.Assign [t] value pos) QF H := fun s R => by
  rw [exec_Assign]
  refine wpAny_bind (wpAny_standAt ?_)
  rw [hs]
  refine wpAny_bind (wpAny_pure ?_)
  rw [if_neg (by decide)]
  refine wpAny_bind (wpAny_mono (h s R) (fun v s₁ p80 => Post.el p80 fun x H₁ q rv R₁ k => ?_) fun zz zz x => x)
  rw [hw, he]
  refine wpAny_bind (wpAny_pure ?_)
  show wpAny _ A (do assignAll v [assign t env]; pure Flow.next) _ _ s₁
  exact wpAny_bind (wpAny_mono (q v s₁ rv R₁) (fun zz zz p81 => Post.el p81 fun zz H₂ q₂ zz R₂ k₂ => wpAny_pure ⟨.next, H₂, q₂, rfl, R₂, k.trans k₂⟩) fun zz zz x => x)

noncomputable def WPAs (C : Cfg) (A : Around) (fs : List (Value → Sem Unit)) (vs : List V) (Q : Unit → AH → Prop) (H : AH) : Prop :=
  ∀ ws s, VsRel C.X s.heap vs ws → Rel C H s → wpAny (model C.prog C.w) A (assignInOrder fs ws) (Post C URel Q H s) NoE s
theorem wpas_nil (q : QU () H) : WPAs C A [] [] QU H := fun ws s r R => by
  simp only [VsRel] at r; subst r
  exact wpAny_pure ⟨(), H, q, trivial, R, Kept.refl _ _⟩
theorem wpas_cons {f : Value → Sem Unit} {fs : List (Value → Sem Unit)} {v : V} {vs : List V} (h : Op1 C A URel f v (fun zz H₁ => WPAs C A fs vs QU H₁) H) : WPAs C A (f :: fs) (v :: vs) QU H := fun ws s r R => by
  simp only [VsRel] at r
  obtain ⟨w, l, rfl, r1, r2⟩ := r
  show wpAny _ A (do holding l (f w); assignInOrder fs l) _ _ s
  refine wpAny_bind (wpAny_holding (wpAny_mono (h w s r1 R) (fun zz s₁ p82 => Post.el p82 fun zz H₁ q zz R₁ k => ?_) fun zz zz x => x))
  exact wpAny_mono (q l s₁ (r2.fz (k.fz R)) R₁) (fun zz zz p => post_then k p) fun zz zz x => x

theorem asg_Tuple {elts : List Expr} {k : Nat} {vs : List V} (hA : A.handled = none) (h : WPAs C A ((assignEach elts env).map (·.2)) vs QU H)
    (hn : (assignEach elts env).length = vs.length := by with_unfolding_all rfl) (hstar : (assignEach elts env).findIdx? (·.1) = none := by with_unfolding_all rfl) : WPA C A env (.Tuple elts k pos) (.tup vs) QU H := fun w s r R => by
  simp only [VRel] at r
  obtain ⟨a, items, rfl, hX, ht, rvs⟩ := r
  have hl := rvs.length
  refine wpAny_assign_Tuple hA ht (by rw [hn, ← hl]; simp) hstar fun h' he => ?_
  have ext : ∀ b o, s.heap.get? b = some o → h'.get? b = some o := fun b o e => he b o (Nat.ne_of_lt (Heap.lt_size e)) e
  exact wpAny_mono (h _ { s with heap := h' } (rvs.fz (fz_of_ext ext)) (R.ext (t := s.toks) ext)) (fun zz zz p => post_then (kept_of_ext (t := s.toks) ext) p) fun zz zz x => x

theorem op_bind {x : Str} {v : V} (h : Op1 C A URel (storeName env x) v QU H) : Op1 C A URel (bindName env x) v QU H := fun w s r R => wpAny_bindName (h w s r R)

theorem asg_Attribute {o : Expr} {name : Str} {v : V} (h : WP C A (VRel C.X) (eval o env) (fun x H₁ => Op2 C A URel (fun o v => setAttr o name v) x v QU H₁) H) : WPA C A env (.Attribute o name pos) v QU H := fun w s r R => by
  rw [arm_assign_Attribute]
  refine wpAny_bind (wpAny_holding (wpAny_mono (h s R) (fun ov s₁ p86 => Post.el p86 fun x H₁ q rx R₁ k => ?_) fun zz zz e => e))
  refine wpAny_bind (wpAny_standAt (wpAny_bind (wpAny_holding (wpAny_mono (q ov w s₁ rx (r.fz (k.fz R)) R₁) (fun zz s₂ p => ?_) fun zz zz e => e))))
  exact wpAny_release (post_then k p)

noncomputable def Op3 (C : Cfg) (A : Around) {α β : Type} (T : Heap → β → α → Prop) (f : Value → Value → Value → Sem α) (x y z : V) (Q : β → AH → Prop) (H : AH) : Prop :=
  ∀ v w u s, VRel C.X s.heap x v → VRel C.X s.heap y w → VRel C.X s.heap z u → Rel C H s → wpAny (model C.prog C.w) A (f v w u) (Post C T Q H s) NoE s
theorem asg_Subscript {o i : Expr} {v : V} (h : WP C A (VRel C.X) (eval o env) (fun x H₁ => WP C A (VRel C.X) (eval i env) (fun y H₂ => Op3 C A URel setItem x y v QU H₂) H₁) H) : WPA C A env (.Subscript o i pos) v QU H := fun w s r R => by
  rw [arm_assign_Subscript]
  refine wpAny_bind (wpAny_holding (wpAny_mono (h s R) (fun ov s₁ p87 => Post.el p87 fun x H₁ q rx R₁ k => ?_) fun zz zz e => e))
  refine wpAny_bind (wpAny_holding (wpAny_mono (q s₁ R₁) (fun iv s₂ p88 => Post.el p88 fun y H₂ q₂ ry R₂ k₂ => ?_) fun zz zz e => e))
  refine wpAny_bind (wpAny_standAt (wpAny_bind (wpAny_holding (wpAny_mono (q₂ ov iv w s₂ (rx.fz (k₂.fz R₁)) ry ((r.fz (k.fz R)).fz (k₂.fz R₁)) R₂) (fun zz s₃ p => ?_) fun zz zz e => e))))
  exact wpAny_release (post_then k (post_then k₂ p))

theorem wp1_Aug_Attribute {o value : Expr} {attr : Str} {op : Operator}
    (h : WP C A (VRel C.X) (eval o env) (fun x H₁ => Op1 C A (VRel C.X) (fun o => getAttr o attr true) x (fun u H₂ => WP C A (VRel C.X) (eval value env) (fun y H₃ =>
      Op2 C A (VRel C.X) (inplaceOp op) u y (fun z H₄ => Op2 C A URel (fun o v => setAttr o attr v) x z (fun _ H₅ => QF .next H₅) H₄) H₃) H₂) H₁) H) :
    WP1 C A env (.AugAssign (.Attribute o attr tpos) op value pos) QF H := fun s R =>
  wpAny_AugAssign_AttributeAny (wpAny_mono (h s R) (fun ov s₁ p89 => Post.el p89 fun x H₁ q rx R₁ k => wpAny_mono (q ov s₁ rx R₁) (fun old s₂ p90 => Post.el p90 fun u H₂ q₂ ru R₂ k₂ => 
    wpAny_mono (q₂ s₂ R₂) (fun v s₃ p91 => Post.el p91 fun y H₃ q₃ ry R₃ k₃ => wpAny_mono (q₃ old v s₃ (ru.fz (k₃.fz R₂)) ry R₃) (fun nw s₄ p92 => Post.el p92 fun z H₄ q₄ rz R₄ k₄ => 
      wpAny_mono (q₄ ov nw s₄ (((rx.fz (k₂.fz R₁)).fz (k₃.fz R₂)).fz (k₄.fz R₃)) rz R₄) (fun _ s₅ p93 => Post.el p93 fun _ H₅ q₅ _ R₅ k₅ => ⟨.next, H₅, q₅, rfl, R₅, (((k.trans k₂).trans k₃).trans k₄).trans k₅⟩)
        fun zz zz e => e) fun zz zz e => e) fun zz zz e => e) fun zz zz e => e) fun zz zz e => e)

theorem wp_Attribute {o : Expr} {name : Str} (h : WP C A (VRel C.X) (eval o env) (fun x H₁ => Op1 C A (VRel C.X) (fun o => getAttr o name true) x Q H₁) H)
    (hbase : attributeBase o name env (eval o env) = eval o env := by with_unfolding_all rfl) : WP C A (VRel C.X) (eval (.Attribute o name pos) env) Q H := fun s R => by
  rw [arm_eval_Attribute, hbase]
  refine wpAny_bind (wpAny_mono (h s R) (fun ov s₁ p94 => Post.el p94 fun x H₁ q rx R₁ k => ?_) fun zz zz e => e)
  refine wpAny_bind (wpAny_standAt (wpAny_bind (wpAny_holding (wpAny_mono (q ov s₁ rx R₁) (fun r s₂ p => ?_) fun zz zz e => e))))
  exact wpAny_bind (wpAny_letTemporaryGo (wpAny_pure (post_then k p)))

noncomputable def GI (C : Cfg) (A : Around) (x y : V) (Q : V → AH → Prop) (H : AH) : Prop :=
  ∀ o i s, VRel C.X s.heap x o → VRel C.X s.heap y i → Rel C H s → ItemOn (model C.prog C.w) A NoE o i (Post C (VRel C.X) Q H s) s
theorem item_tail {value slice : Expr} {o i : Value} {P : Value → Shared → Prop} {s : Shared} (h : ItemOn (model C.prog C.w) A NoE o i P s) :
    wpAny (model C.prog C.w) A (getitemInPython o >>= fun p => subscripted slice p o i >>= fun r => letTemporaryGo value o r >>= fun zz => pure r) P NoE s := by
  obtain ⟨T, id, hl, hT, hg⟩ := h
  refine wpAny_bind ?_
  rw [getitemInPython_of_ne hT.not_modules]
  refine wpAny_bind (wpAny_specialOf hT hl (wpAny_pure ?_))
  have fin : ∀ vs, wpAny (model C.prog C.w) A (operate vs (getItem o i)) (fun r s₃ => wpAny (model C.prog C.w) A (letTemporaryGo value o r >>= fun zz => pure r) P NoE s₃) NoE s := fun vs =>
    wpAny_operating (wpAny_mono hg (fun r s₃ h₃ => wpAny_bind (wpAny_letTemporaryGo (wpAny_pure h₃))) fun zz zz x => x)
  refine wpAny_bind ?_
  unfold subscripted
  split
  · exact fin _
  · rename_i he; cases he
  · exact fin _
theorem wp_Subscript {o i : Expr} (h : WP C A (VRel C.X) (eval o env) (fun x H₁ => WP C A (VRel C.X) (eval i env) (fun y H₂ => GI C A x y Q H₂) H₁) H) : WP C A (VRel C.X) (eval (.Subscript o i pos) env) Q H := fun s R => by
  rw [eval_Subscript]
  refine wpAny_bind (wpAny_mono (h s R) (fun ov s₁ p95 => Post.el p95 fun x H₁ q rx R₁ k => ?_) fun zz zz e => e)
  refine wpAny_bind (wpAny_holding (wpAny_mono (q s₁ R₁) (fun iv s₂ p96 => Post.el p96 fun y H₂ q₂ ry R₂ k₂ => ?_) fun zz zz e => e))
  refine wpAny_bind (wpAny_standAt (item_tail ?_))
  obtain ⟨T, id, hl, hT, hg⟩ := q₂ ov iv s₂ (rx.fz (k₂.fz R₁)) ry R₂
  exact ⟨T, id, hl, hT, wpAny_mono hg (fun zz zz p => post_then k (post_then k₂ p)) fun zz zz e => e⟩

noncomputable def PRel (_ : Heap) : Option Int → Value → Prop := fun o v => IsPart v o
noncomputable abbrev WPP (C : Cfg) (A : Around) (env : Env) (e : Option Expr) (Q : Option Int → AH → Prop) (H : AH) : Prop := WP C A PRel (evalPart e env) Q H
variable {QP : Option Int → AH → Prop}
theorem wpp_none (q : QP none H) : WPP C A env none QP H := fun s R => wpAny_pure (post_id (x := none) R .none q)
theorem wpp_some {e : Expr} (h : WP C A (VRel C.X) (eval e env) (fun x H₁ => IntOf x (fun i => QP (some i) H₁)) H) : WPP C A env (some e) QP H := fun s R =>
  wpAny_mono (h s R) (fun v s₁ ⟨x, H₁, ⟨i, hx, q⟩, r, R₁, k⟩ => by
    subst hx; simp only [VRel] at r; obtain ⟨t, rfl⟩ := r
    exact ⟨some i, H₁, q, .int i t, R₁, k⟩) fun zz zz e => e
noncomputable def GS (C : Cfg) (A : Around) (x : V) (l u st : Option Int) (Q : V → AH → Prop) (H : AH) : Prop :=
  ∀ o sl vl vu vs s, VRel C.X s.heap x o → s.heap.IsSliceOf sl vl vu vs → IsPart vl l → IsPart vu u → IsPart vs st → Rel C H s → ItemOn (model C.prog C.w) A NoE o (.ref sl) (Post C (VRel C.X) Q H s) s
theorem wp_Slice {o : Expr} {l u st : Option Expr} {p : Pos}
    (h : WP C A (VRel C.X) (eval o env) (fun x H₁ => WPP C A env l (fun l H₂ => WPP C A env u (fun u H₃ => WPP C A env st (fun st H₄ => GS C A x l u st Q H₄) H₃) H₂) H₁) H) :
    WP C A (VRel C.X) (eval (.Subscript o (.Slice l u st p) pos) env) Q H := fun s R => by
  rw [eval_Subscript]
  refine wpAny_bind (wpAny_mono (h s R) (fun ov s₁ p99 => Post.el p99 fun x H₁ q rx R₁ k => ?_) fun zz zz e => e)
  refine wpAny_bind (wpAny_holding (wpAny_Slice (wpAny_mono (q s₁ R₁) (fun lv s₂ p100 => Post.el p100 fun lo H₂ q₂ rl R₂ k₂ => wpAny_mono (q₂ s₂ R₂) (fun uv s₃ p101 => Post.el p101 fun hi H₃ q₃ ru R₃ k₃ => wpAny_mono (q₃ s₃ R₃) (fun sv s₄ p102 => Post.el p102 fun st' H₄ q₄ rst R₄ k₄ => ?_)
    fun zz zz e => e) fun zz zz e => e) fun zz zz e => e)))
  refine wpAny_bind (wpAny_standAt (item_tail ?_))
  have ext : ∀ b o, s₄.heap.get? b = some o → (s₄.heap.push { cls := .type "slice", data := .fields #[lv, uv, sv] }).get? b = some o := fun b o e => Heap.get?_push_of_some _ e
  obtain ⟨T, id, hl, hT, hg⟩ := q₄ ov _ lv uv sv _ ((((rx.fz (k₂.fz R₁)).fz (k₃.fz R₂)).fz (k₄.fz R₃)).fz (fz_of_ext ext)) (Heap.IsSliceOf.new s₄.heap lv uv sv) rl ru rst (R₄.ext (t := s₄.toks) ext)
  exact ⟨T, id, hl, hT, wpAny_mono hg (fun zz zz p => post_then k (post_then k₂ (post_then k₃ (post_then k₄ (post_then (kept_of_ext (t := s₄.toks) ext) p))))) fun zz zz e => e⟩

-- items
theorem filterMap_rel {X : List Addr} {h : Heap} {us : List V} {vs : List Value} (r : VsRel X h us vs) : ∀ is : List Nat, VsRel X h (is.filterMap (us[·]?)) (is.filterMap (vs[·]?))
  | [] => VsRel.nil
  | i :: is => by
    rw [List.filterMap_cons, List.filterMap_cons]
    cases e : us[i]? with
    | none =>
      have : vs[i]? = none := by rw [List.getElem?_eq_none_iff, r.length, ← List.getElem?_eq_none_iff]; exact e
      rw [this]; exact filterMap_rel r is
    | some u =>
      obtain ⟨v, hv, rv⟩ := r.get e
      rw [hv]; exact .cons rv (filterMap_rel r is)
noncomputable def pySlice {α : Type} (l : List α) (lo hi st : Option Int) : List α :=
  (sliceRange (sliceBounds lo hi st l.length).1 (sliceBounds lo hi st l.length).2.1 (sliceBounds lo hi st l.length).2.2).filterMap (l[·]?)

theorem gi_list {l : Addr} {vs : List V} {i : Int} {v : V} (hl : (l, AO.list vs) ∈ H) (h0 : 0 ≤ i) (hx : vs[i.toNat]? = some v) (hz : vs.length ≤ 1000000) (q : Q v H) : GI C A (.ref l) (.int i) Q H := fun o iv s ro ri R => by
  simp only [VRel] at ro ri; subst ro; obtain ⟨t, rfl⟩ := ri
  obtain ⟨items, pl, rvs⟩ := R.objs _ hl
  obtain ⟨w, hw, rw⟩ := rvs.get hx
  have hlt := (List.getElem?_eq_some_iff.mp hx).1
  exact ⟨_, _, slot_list_getitem.lookup, (PlainList.isList pl).typeIs, wpAny_getItem_list (PlainList.isList pl) h0 (by lia) (by simpa using hw) (post_id R rw q)⟩
theorem gs_list {l : Addr} {vs : List V} {lo hi st : Option Int} (hl : (l, AO.list vs) ∈ H) (h0 : st ≠ some 0) (hz : vs.length ≤ 1000000) (q : ∀ a, Q (.ref a) ((a, .list (pySlice vs lo hi st)) :: H)) : GS C A (.ref l) lo hi st Q H := fun o sl vl vu vst s ro hs p1 p2 p3 R => by
  simp only [VRel] at ro; subst ro
  obtain ⟨items, pl, rvs⟩ := R.objs _ hl
  have hlen := rvs.length
  refine ⟨_, _, slot_list_getitem.lookup, (PlainList.isList pl).typeIs, wpAny_getItem_list_slice (PlainList.isList pl) hs p1 p2 p3 h0 ?_ (by rw [← Array.length_toList, hlen, sizeLine_eq]; lia)⟩
  have ext : ∀ b o, s.heap.get? b = some o → (s.heap.push { cls := .type "list", data := .seq (slicePick items lo hi st) }).get? b = some o := fun b o e => Heap.get?_push_of_some _ e
  refine ⟨_, _, q _, rfl, R.add (t := s.toks) ext (Nat.le_refl _) ⟨_, ⟨0, Heap.get?_push_size _ rfl⟩, ?_⟩, kept_add (t := s.toks) ext (Nat.le_refl _)⟩
  have := (filterMap_rel (rvs.fz (fz_of_ext ext)) (sliceRange (sliceBounds lo hi st vs.length).1 (sliceBounds lo hi st vs.length).2.1 (sliceBounds lo hi st vs.length).2.2))
  have e : (slicePick items lo hi st).toList = (sliceRange (sliceBounds lo hi st vs.length).1 (sliceBounds lo hi st vs.length).2.1 (sliceBounds lo hi st vs.length).2.2).filterMap (items.toList[·]?) := by
    unfold slicePick
    rw [← hlen]; simp
  rw [e]
  exact this
end
end
noncomputable section
theorem intBits_le {a : Int} {k : Nat} (h : a.natAbs < 2 ^ k) : Builtin.Int.intBits a ≤ k := by
  unfold Builtin.Int.intBits
  split
  · exact Nat.zero_le _
  · rename_i h0
    have h1 : a.natAbs ≠ 0 := by simpa using h0
    exact (Nat.log2_lt h1).mpr h
theorem mulOk {a b : Int} {k l : Nat} (ha : a.natAbs < 2 ^ k) (hb : b.natAbs < 2 ^ l) (h : k + l ≤ 100000) : IntMulOk a b := by
  have h1 := intBits_le ha
  have h2 := intBits_le hb
  unfold IntMulOk Builtin.Int.intTooBig bitsLine
  simp
  intro _ _
  lia

section
variable {C C' : Cfg} {gl : List (Str × V)} {A : Around} {env : Env} {pos tpos : Pos} {H H' : AH} {Q : V → AH → Prop} {QF : Fl → AH → Prop} {QB : Bool → AH → Prop} {QU : Unit → AH → Prop}

theorem op_sub_int {a : Int} {b : Int} (q : Q (.int (a - b)) H) : Op2 C A (VRel C.X) (binaryOp .Sub) (.int a) (.int b) Q H := fun v w s hv hw R => by
  simp only [VRel] at hv hw; obtain ⟨t, rfl⟩ := hv; obtain ⟨u, rfl⟩ := hw
  exact PyProof.Rows.sub_int (post_tk (s := s) (x := V.int (a - b)) R ⟨_, rfl⟩ q)
theorem op_mul_int {a : Int} {b : Int} (hm : IntMulOk a b) (q : Q (.int (a * b)) H) : Op2 C A (VRel C.X) (binaryOp .Mult) (.int a) (.int b) Q H := fun v w s hv hw R => by
  simp only [VRel] at hv hw; obtain ⟨t, rfl⟩ := hv; obtain ⟨u, rfl⟩ := hw
  exact mul_int (hm := hm) (post_tk (s := s) (x := V.int (a * b)) R ⟨_, rfl⟩ q)
theorem op_floordiv_int {a : Int} {b : Int} (hb : b ≠ 0) (hp : Builtin.divisionGoesByPylong a b = false) (q : Q (.int (a.fdiv b)) H) : Op2 C A (VRel C.X) (binaryOp .FloorDiv) (.int a) (.int b) Q H := fun v w s hv hw R => by
  simp only [VRel] at hv hw; obtain ⟨t, rfl⟩ := hv; obtain ⟨u, rfl⟩ := hw
  exact floordiv_int (hp := .inl hp) hb (post_tk (s := s) (x := V.int (a.fdiv b)) R ⟨_, rfl⟩ q)
theorem op_mod_int {a : Int} {b : Int} (hb : b ≠ 0) (q : Q (.int (a.fmod b)) H) : Op2 C A (VRel C.X) (binaryOp .Mod) (.int a) (.int b) Q H := fun v w s hv hw R => by
  simp only [VRel] at hv hw; obtain ⟨t, rfl⟩ := hv; obtain ⟨u, rfl⟩ := hw
  exact PyProof.Rows.mod_int hb (post_tk (s := s) (x := V.int (a.fmod b)) R ⟨_, rfl⟩ q)
theorem op_rshift_int {a : Int} {b : Int} (hb : 0 ≤ b) (q : Q (.int (a.fdiv (2 ^ b.toNat))) H) : Op2 C A (VRel C.X) (binaryOp .RShift) (.int a) (.int b) Q H := fun v w s hv hw R => by
  simp only [VRel] at hv hw; obtain ⟨t, rfl⟩ := hv; obtain ⟨u, rfl⟩ := hw
  exact rshift_int hb (post_tk (s := s) (x := V.int (a.fdiv (2 ^ b.toNat))) R ⟨_, rfl⟩ q)
theorem op_lshift_int {a : Int} {b : Int} (hb : 0 ≤ b) (hz : (Builtin.Int.intBits a : Int) + b ≤ 2 ^ 27) (q : Q (.int (a * 2 ^ b.toNat)) H) : Op2 C A (VRel C.X) (binaryOp .LShift) (.int a) (.int b) Q H := fun v w s hv hw R => by
  simp only [VRel] at hv hw; obtain ⟨t, rfl⟩ := hv; obtain ⟨u, rfl⟩ := hw
  exact lshift_int hb hz (post_tk (s := s) (x := V.int (a * 2 ^ b.toNat)) R ⟨_, rfl⟩ q)
theorem op_xor_int {a : Int} {b : Int} (q : Q (.int (Builtin.bitXor a b)) H) : Op2 C A (VRel C.X) (binaryOp .BitXor) (.int a) (.int b) Q H := fun v w s hv hw R => by
  simp only [VRel] at hv hw; obtain ⟨t, rfl⟩ := hv; obtain ⟨u, rfl⟩ := hw
  exact xor_int (post_tk (s := s) (x := V.int (Builtin.bitXor a b)) R ⟨_, rfl⟩ q)
theorem iop_add_int {a : Int} {b : Int} (q : Q (.int (a + b)) H) : Op2 C A (VRel C.X) (inplaceOp .Add) (.int a) (.int b) Q H := fun v w s hv hw R => by
  simp only [VRel] at hv hw; obtain ⟨t, rfl⟩ := hv; obtain ⟨u, rfl⟩ := hw
  exact iadd_int (post_tk (s := s) (x := V.int (a + b)) R ⟨_, rfl⟩ q)
theorem op_pow_int {a : Int} {b : Int} (hb : 0 ≤ b) (hz : (Builtin.Int.intBits a : Int) * b ≤ 2 ^ 27) (q : Q (.int (a ^ b.toNat)) H) : Op2 C A (VRel C.X) (binaryOp .Pow) (.int a) (.int b) Q H := fun v w s hv hw R => by
  simp only [VRel] at hv hw; obtain ⟨t, rfl⟩ := hv; obtain ⟨u, rfl⟩ := hw
  exact PyProof.Rows.pow_int hb hz (post_tk (s := s) (x := V.int (a ^ b.toNat)) R ⟨_, rfl⟩ q)
theorem op_lt_int {a : Int} {b : Int} (q : Q (.bool (decide (a < b))) H) : Op2 C A (VRel C.X) (compareOp .Lt) (.int a) (.int b) Q H := fun v w s hv hw R => by
  simp only [VRel] at hv hw; obtain ⟨t, rfl⟩ := hv; obtain ⟨u, rfl⟩ := hw
  exact PyProof.Rows.lt_int (post_id (x := V.bool (decide (a < b))) R rfl q)
theorem op_gt_int {a : Int} {b : Int} (q : Q (.bool (decide (b < a))) H) : Op2 C A (VRel C.X) (compareOp .Gt) (.int a) (.int b) Q H := fun v w s hv hw R => by
  simp only [VRel] at hv hw; obtain ⟨t, rfl⟩ := hv; obtain ⟨u, rfl⟩ := hw
  exact PyProof.Rows.gt_int (post_id (x := V.bool (decide (b < a))) R rfl q)
theorem op_eq_int {a : Int} {b : Int} (q : Q (.bool (a == b)) H) : Op2 C A (VRel C.X) (compareOp .Eq) (.int a) (.int b) Q H := fun v w s hv hw R => by
  simp only [VRel] at hv hw; obtain ⟨t, rfl⟩ := hv; obtain ⟨u, rfl⟩ := hw
  exact PyProof.Rows.eq_int (post_id (x := V.bool (a == b)) R rfl q)
theorem op_ne_int {a : Int} {b : Int} (q : Q (.bool (a != b)) H) : Op2 C A (VRel C.X) (compareOp .NotEq) (.int a) (.int b) Q H := fun v w s hv hw R => by
  simp only [VRel] at hv hw; obtain ⟨t, rfl⟩ := hv; obtain ⟨u, rfl⟩ := hw
  exact PyProof.Rows.ne_int (post_id (x := V.bool (a != b)) R rfl q)
theorem op_le_int {a : Int} {b : Int} (q : Q (.bool (decide (a ≤ b))) H) : Op2 C A (VRel C.X) (compareOp .LtE) (.int a) (.int b) Q H := fun v w s hv hw R => by
  simp only [VRel] at hv hw; obtain ⟨t, rfl⟩ := hv; obtain ⟨u, rfl⟩ := hw
  exact PyProof.Rows.le_int (post_id (x := V.bool (decide (a ≤ b))) R rfl q)
theorem op_eq_str {a : Str} {b : Str} (q : Q (.bool (a == b)) H) : Op2 C A (VRel C.X) (compareOp .Eq) (.str a) (.str b) Q H := fun v w s hv hw R => by
  simp only [VRel] at hv hw; obtain ⟨t, rfl⟩ := hv; obtain ⟨u, rfl⟩ := hw
  exact PyProof.Rows.eq_str (post_id (x := V.bool (a == b)) R rfl q)
theorem op_in_str {a : Str} {b : Str} (q : Q (.bool (!(Builtin.Str.occurrences b a 0 b.length 1).isEmpty)) H) : Op2 C A (VRel C.X) (compareOp .In) (.str a) (.str b) Q H := fun v w s hv hw R => by
  simp only [VRel] at hv hw; obtain ⟨t, rfl⟩ := hv; obtain ⟨u, rfl⟩ := hw
  exact PyProof.Rows.in_str (post_id (x := V.bool (!(Builtin.Str.occurrences b a 0 b.length 1).isEmpty)) R rfl q)
theorem op_add_str {a b : Str} (hz : a.length + b.length ≤ 100000) (q : Q (.str (a ++ b)) H) : Op2 C A (VRel C.X) (binaryOp .Add) (.str a) (.str b) Q H := fun v w s hv hw R => by
  simp only [VRel] at hv hw; obtain ⟨t, rfl⟩ := hv; obtain ⟨u, rfl⟩ := hw
  exact PyProof.Rows.add_str (fun t' tk => post_tk (s := s) (x := V.str _) R ⟨_, rfl⟩ q) (by rw [sizeLine_eq]; lia)
theorem iop_add_str {a b : Str} (hz : a.length + b.length ≤ 100000) (q : Q (.str (a ++ b)) H) : Op2 C A (VRel C.X) (inplaceOp .Add) (.str a) (.str b) Q H := fun v w s hv hw R => by
  simp only [VRel] at hv hw; obtain ⟨t, rfl⟩ := hv; obtain ⟨u, rfl⟩ := hw
  exact PyProof.Rows.iadd_str (fun t' tk => post_tk (s := s) (x := V.str _) R ⟨_, rfl⟩ q) (by rw [sizeLine_eq]; lia)
theorem op_add_bytes {a b : Array UInt8} (hz : a.size + b.size ≤ 100000) (q : Q (.bytes (a ++ b)) H) : Op2 C A (VRel C.X) (binaryOp .Add) (.bytes a) (.bytes b) Q H := fun v w s hv hw R => by
  simp only [VRel] at hv hw; obtain ⟨t, rfl⟩ := hv; obtain ⟨u, rfl⟩ := hw
  exact PySem.W.KBy.add_bytes (by lia) (fun t' tk => post_tk (s := s) (x := V.bytes _) R ⟨_, rfl⟩ q)
theorem op_ne_bytes {a b : Array UInt8} (q : Q (.bool (a.toList != b.toList)) H) : Op2 C A (VRel C.X) (compareOp .NotEq) (.bytes a) (.bytes b) Q H := fun v w s hv hw R => by
  simp only [VRel] at hv hw; obtain ⟨t, rfl⟩ := hv; obtain ⟨u, rfl⟩ := hw
  exact PySem.W.ne_bytes (post_id (x := V.bool _) R rfl q)
theorem op_neg_int {a : Int} (q : Q (.int (-a)) H) : Op1 C A (VRel C.X) (unaryOp .USub) (.int a) Q H := fun v s hv R => by
  simp only [VRel] at hv; obtain ⟨t, rfl⟩ := hv
  exact PyProof.Rows.neg_int (post_tk (s := s) (x := V.int _) R ⟨_, rfl⟩ q)
theorem op_inv_int {a : Int} (q : Q (.int (Builtin.bitNot a)) H) : Op1 C A (VRel C.X) (unaryOp .Invert) (.int a) Q H := fun v s hv R => by
  simp only [VRel] at hv; obtain ⟨t, rfl⟩ := hv
  exact PyProof.Rows.invert_int (post_tk (s := s) (x := V.int _) R ⟨_, rfl⟩ q)
-- truth
theorem tr_bool {b : Bool} (q : QB b H) : Op1 C A BRel truthy (.bool b) QB H := fun v s hv R => by
  simp only [VRel] at hv; subst hv
  exact wpAny_truthy_bool (post_id R rfl q)
theorem tr_int {a : Int} (q : QB (a != 0) H) : Op1 C A BRel truthy (.int a) QB H := fun v s hv R => by
  simp only [VRel] at hv; obtain ⟨t, rfl⟩ := hv
  exact PyProof.Rows.truthy_int (post_id R rfl q)
theorem tr_list {l : Addr} {vs : List V} (hl : (l, AO.list vs) ∈ H) (hz : vs.length ≤ 100000) (q : QB (decide (0 < vs.length)) H) : Op1 C A BRel truthy (.ref l) QB H := fun v s hv R => by
  simp only [VRel] at hv; subst hv
  obtain ⟨items, pl, rvs⟩ := R.objs _ hl
  have hlen := rvs.length
  refine wpAny_truthy_list (PlainList.isList pl) (by rw [← Array.length_toList, hlen]; lia) ?_
  have e : (!items.isEmpty) = decide (0 < vs.length) := by
    rw [← hlen, Array.length_toList]
    cases h : items.size with
    | zero => simp [Array.isEmpty, h]
    | succ n => simp [Array.isEmpty, h]
  rw [e]
  exact post_tk (s := s) R rfl q
end
end
noncomputable section
theorem keeps_nr {M : Model} {A : Around} {fv : Value} {s : Shared} (h : ∀ a, fv ≠ .ref a) : KeepsOk M A fv s := ⟨.machine, fun Q q => by
  unfold keeperOf
  cases fv with
  | ref a => exact absurd rfl (h a)
  | _ => exact wpAny_pure q⟩

theorem strsAre_of {X : List Addr} {h : Heap} : ∀ {ys : List Str} {vs : List Value}, VsRel X h (ys.map V.str) vs → StrsAre vs ys
  | [], vs, r => by simp only [List.map_nil, VsRel] at r; subst r; exact .nil
  | y :: ys, vs, r => by
    simp only [List.map_cons, VsRel, VRel] at r
    obtain ⟨v, l, rfl, ⟨t, rfl⟩, r⟩ := r
    exact .cons y t (strsAre_of r)
theorem intsAre_of {X : List Addr} {h : Heap} : ∀ {ys : List Int} {vs : List Value}, VsRel X h (ys.map V.int) vs → IntsAre vs ys
  | [], vs, r => by simp only [List.map_nil, VsRel] at r; subst r; exact .nil
  | y :: ys, vs, r => by
    simp only [List.map_cons, VsRel, VRel] at r
    obtain ⟨v, l, rfl, ⟨t, rfl⟩, r⟩ := r
    exact .cons y t (intsAre_of r)

theorem upd_plain {h : Heap} {l : Addr} {items : Array Value} {n : Nat} (f : Array Value → Array Value) (e : h.get? l = some { cls := .type "list", data := .seq items n }) :
    (h.update l (Obj.mapSeq f)).PlainList l (f items) ∧ Heap.SameBut l h (h.update l (Obj.mapSeq f)) := by
  obtain ⟨n', hd'⟩ : ∃ n', Obj.mapSeq f { cls := .type "list", data := .seq items n } = { cls := .type "list", data := .seq (f items) n' } := ⟨_, rfl⟩
  exact ⟨⟨n', by rw [Heap.get?_update_self _ e (by rw [hd']; rfl), hd']⟩, Heap.SameBut.update ..⟩

section
variable {C C' : Cfg} {gl : List (Str × V)} {A : Around} {env : Env} {pos tpos : Pos} {H H' : AH} {Q : V → AH → Prop} {QF : Fl → AH → Prop} {QB : Bool → AH → Prop} {QU : Unit → AH → Prop}
variable {QM : V → List V → AH → Prop}

noncomputable def CallB (C : Cfg) (A : Around) (fv : Value) (args : List V) (Q : V → AH → Prop) (H : AH) : Prop :=
  ∀ avs s, VsRel C.X s.heap args avs → Rel C H s → wpAny (model C.prog C.w) A (call fv avs) (Post C (VRel C.X) Q H s) NoE s
theorem wpc_bi {id : String} {args : List V} (h : CallB C A (.builtin id) args Q H) : WPC C A (.bi id) args Q H := fun fv avs s r ra R => by
  simp only [VRel] at r; subst r
  exact ⟨keeps_nr fun zz e => (nomatch e), h avs s ra R⟩
theorem wpc_ty {id : String} {args : List V} (h : CallB C A (.type id) args Q H) : WPC C A (.ty id) args Q H := fun fv avs s r ra R => by
  simp only [VRel] at r; subst r
  exact ⟨keeps_nr fun zz e => (nomatch e), h avs s ra R⟩

theorem rel1 {X : List Addr} {h : Heap} {x : V} {avs : List Value} (r : VsRel X h [x] avs) : ∃ v, avs = [v] ∧ VRel X h x v := by
  simp only [VsRel] at r
  obtain ⟨v, l, rfl, r, rfl⟩ := r
  exact ⟨v, rfl, r⟩
theorem rel2 {X : List Addr} {h : Heap} {x y : V} {avs : List Value} (r : VsRel X h [x, y] avs) : ∃ v w, avs = [v, w] ∧ VRel X h x v ∧ VRel X h y w := by
  simp only [VsRel] at r
  obtain ⟨v, l, rfl, r, w, l, rfl, r2, rfl⟩ := r
  exact ⟨v, w, rfl, r, r2⟩

-- methods
theorem wpm_list {l : Addr} {vs : List V} {name : Str} {id : String} (slot : Slot "list" name id) (ty : typeOf (.builtin id) = pure (.type "method_descriptor")) (hl : (l, AO.list vs) ∈ H) (q : QM (.bi id) [.ref l] H) :
    WPM C A (.ref l) name QM H := fun pl v s r R => by
  simp only [VRel] at r; subst r
  obtain ⟨items, pln, rvs⟩ := R.objs _ hl
  obtain ⟨n, e⟩ := pln
  exact getMethod_builtin ⟨_, e, rfl⟩ F.plainAttrs_list slot ty (fun a ha => by cases ha; exact ⟨_, e, rfl⟩) (post_id (x := (V.bi id, [V.ref l])) R ⟨rfl, .cons rfl .nil⟩ q)
theorem wpm_append {l : Addr} {vs : List V} (hl : (l, AO.list vs) ∈ H) (q : QM (.bi "list.append") [.ref l] H) : WPM C A (.ref l) "append" QM H := wpm_list slot_list_append type_list_append hl q
theorem wpm_pop {l : Addr} {vs : List V} (hl : (l, AO.list vs) ∈ H) (q : QM (.bi "list.pop") [.ref l] H) : WPM C A (.ref l) "pop" QM H := wpm_list F.slot_list_pop F.type_list_pop hl q
theorem wpm_reverse {l : Addr} {vs : List V} (hl : (l, AO.list vs) ∈ H) (q : QM (.bi "list.reverse") [.ref l] H) : WPM C A (.ref l) "reverse" QM H := wpm_list F.slot_list_reverse F.type_list_reverse hl q
theorem wpm_bitlen {i : Int} (q : QM (.bi "int.bit_length") [.int i] H) : WPM C A (.int i) "bit_length" QM H := fun pl v s r R => by
  simp only [VRel] at r; obtain ⟨t, rfl⟩ := r
  exact getMethod_int_bit_length (post_id (x := (V.bi "int.bit_length", [V.int i])) R ⟨rfl, .cons ⟨t, rfl⟩ .nil⟩ q)
theorem wpm_join {x : Str} (q : QM (.bi "str.join") [.str x] H) : WPM C A (.str x) "join" QM H := fun pl v s r R => by
  simp only [VRel] at r; obtain ⟨t, rfl⟩ := r
  exact GM.join (post_id (x := (V.bi "str.join", [V.str x])) R ⟨rfl, .cons ⟨t, rfl⟩ .nil⟩ q)
theorem wpm_scount {x : Str} (q : QM (.bi "str.count") [.str x] H) : WPM C A (.str x) "count" QM H := fun pl v s r R => by
  simp only [VRel] at r; obtain ⟨t, rfl⟩ := r
  exact GM.count (post_id (x := (V.bi "str.count", [V.str x])) R ⟨rfl, .cons ⟨t, rfl⟩ .nil⟩ q)

theorem Rel.list_fz {s : Shared} {l : Addr} {vs : List V} {h' : Heap} (R : Rel C H s) (hl : (l, AO.list vs) ∈ H) (hs : Heap.SameBut l s.heap h') : Fz C.X s.heap h' :=
  fun a o e f => hs.extBut a o (fun q => R.notin e f (q ▸ List.mem_map_of_mem (f := Prod.fst) hl)) e

theorem c_append {l : Addr} {vs : List V} {x : V} (hu : Upd l (.list vs) (.list (vs ++ [x])) H H') (hz : vs.length ≤ 100000) (q : Q .none H') : WPC C A (.bi "list.append") [.ref l, x] Q H := wpc_bi fun avs s ra R => by
  obtain ⟨v, w, rfl, r1, r2⟩ := rel2 ra
  simp only [VRel] at r1; subst r1
  obtain ⟨items, pl, rvs⟩ := R.objs _ hu.mem
  have hlen := rvs.length
  refine wpAny_list_append_plain pl (fun h' pl' hs => ?_) (by rw [← Array.length_toList, hlen, sizeLine_eq]; lia)
  have hf := R.list_fz hu.mem hs
  obtain ⟨R', k'⟩ := R.upd hu (h' := h') (t := s.toks) (fun b o n e => hs.extBut b o n e) ⟨_, pl', by rw [Array.toList_push]; exact (rvs.fz hf).append (.cons (r2.fz hf) .nil)⟩
  exact ⟨.none, H', q, rfl, R', k'⟩
theorem c_pop0 {l : Addr} {vs : List V} {x : V} (hu : Upd l (.list (x :: vs)) (.list vs) H H') (hz : vs.length ≤ 100000) (q : Q x H') : WPC C A (.bi "list.pop") [.ref l, .int 0] Q H := wpc_bi fun avs s ra R => by
  obtain ⟨v, w, rfl, r1, r2⟩ := rel2 ra
  simp only [VRel] at r1 r2; subst r1; obtain ⟨t, rfl⟩ := r2
  obtain ⟨items, ⟨n, e⟩, rvs⟩ := R.objs _ hu.mem
  have hlen := rvs.length
  have hsz : items.size = vs.length + 1 := by rw [← Array.length_toList, hlen]; rfl
  obtain ⟨y, hy, ry⟩ := rvs.get (i := 0) (u := x) rfl
  refine call_meets F.slot_list_pop ⟨_, e, rfl⟩ F.entry_list_pop (F.args_list_pop_2 _ _) (MeetsSeq.list_pop_at l items n 0 t 0 y (fitsIndex_of (by decide) (by decide)) (by unfold seqIndex?; simp [hsz]) (by simpa using hy) (by rw [hsz, sizeLine_eq]; lia)) ⟨e, ?_⟩
  obtain ⟨pl', hs⟩ := upd_plain (fun xs => xs.eraseIdxIfInBounds 0) e
  have hf := R.list_fz hu.mem hs
  have he : (items.eraseIdxIfInBounds 0).toList = items.toList.tail := by
    have : 0 < items.size := by exact Nat.lt_of_sub_eq_succ hlen
    simp [Array.eraseIdxIfInBounds, this]
  obtain ⟨R', k'⟩ := R.upd hu (h' := _) (t := s.toks) (fun b o n e => hs.extBut b o n e) ⟨_, pl', by
    rw [he]
    have := rvs.fz hf
    simp only [VsRel] at this
    obtain ⟨v, l, e1, _, r⟩ := this
    rw [e1]; exact r⟩
  exact ⟨x, H', q, ry.fz hf, R', k'⟩
theorem c_reverse {l : Addr} {vs : List V} (hu : Upd l (.list vs) (.list vs.reverse) H H') (hz : vs.length ≤ 100000) (q : Q .none H') : WPC C A (.bi "list.reverse") [.ref l] Q H := wpc_bi fun avs s ra R => by
  obtain ⟨v, rfl, r1⟩ := rel1 ra
  simp only [VRel] at r1; subst r1
  obtain ⟨items, ⟨n, e⟩, rvs⟩ := R.objs _ hu.mem
  have hlen := rvs.length
  refine call_meets F.slot_list_reverse ⟨_, e, rfl⟩ F.entry_list_reverse (F.args_list_reverse_1 _) (AutoSeq1.list_reverse_list_0 l items n (by rw [← Array.length_toList, hlen, sizeLine_eq]; lia)) ⟨e, ?_⟩
  obtain ⟨pl', hs⟩ := upd_plain (fun xs => xs.reverse) e
  have hf := R.list_fz hu.mem hs
  obtain ⟨R', k'⟩ := R.upd hu (h' := _) (t := s.toks) (fun b o n e => hs.extBut b o n e) ⟨_, pl', by
    rw [Array.toList_reverse]
    refine VsRel.of_get (by simp [hlen]) fun i u hu' => ?_
    have hi : i < vs.length := by
      have := (List.getElem?_eq_some_iff.mp hu').1; simpa using this
    rw [List.getElem?_reverse hi] at hu'
    obtain ⟨v, hv, rv⟩ := (rvs.fz hf).get hu'
    exact ⟨v, by rw [List.getElem?_reverse (by rw [hlen]; exact hi), hlen]; exact hv, rv⟩⟩
  exact ⟨.none, H', q, rfl, R', k'⟩

-- builtins
theorem c_bitlen {i : Int} (q : Q (.int (Builtin.Int.intBits i : Nat)) H) : WPC C A (.bi "int.bit_length") [.int i] Q H := wpc_bi fun avs s ra R => by
  obtain ⟨v, rfl, r1⟩ := rel1 ra
  simp only [VRel] at r1; obtain ⟨t, rfl⟩ := r1
  exact call_int_bit_length (post_tk (s := s) (x := V.int _) R ⟨_, rfl⟩ q)
theorem c_len_list {l : Addr} {vs : List V} (hl : (l, AO.list vs) ∈ H) (hz : vs.length ≤ 100000) (q : Q (.int (vs.length : Nat)) H) : WPC C A (.bi "len") [.ref l] Q H := wpc_bi fun avs s ra R => by
  obtain ⟨v, rfl, r1⟩ := rel1 ra
  simp only [VRel] at r1; subst r1
  obtain ⟨items, pl, rvs⟩ := R.objs _ hl
  have hlen := rvs.length
  simp only [Array.length_toList] at hlen
  exact Calls.call_len_list (PlainList.isList pl) (by lia) (post_tk (s := s) (x := V.int _) R (by rw [hlen]; exact ⟨_, rfl⟩) q)
theorem c_len_str {x : Str} (hz : x.length ≤ 100000) (q : Q (.int (x.length : Nat)) H) : WPC C A (.bi "len") [.str x] Q H := wpc_bi fun avs s ra R => by
  obtain ⟨v, rfl, r1⟩ := rel1 ra
  simp only [VRel] at r1; obtain ⟨t, rfl⟩ := r1
  exact P.len_str (by lia) (post_tk (s := s) (x := V.int _) R ⟨_, rfl⟩ q)
theorem c_abs {i : Int} (q : Q (.int i.natAbs) H) : WPC C A (.bi "abs") [.int i] Q H := wpc_bi fun avs s ra R => by
  obtain ⟨v, rfl, r1⟩ := rel1 ra
  simp only [VRel] at r1; obtain ⟨t, rfl⟩ := r1
  refine call_abs_int fun u tk => post_tk (s := s) (x := V.int _) R ?_ q
  have : (i.natAbs : Int) = if i < 0 then -i else i := by split <;> lia
  rw [this]; exact ⟨_, rfl⟩
theorem c_int {i : Int} (q : Q (.int i) H) : WPC C A (.ty "int") [.int i] Q H := wpc_ty fun avs s ra R => by
  obtain ⟨v, rfl, r1⟩ := rel1 ra
  simp only [VRel] at r1; obtain ⟨t, rfl⟩ := r1
  exact call_int_int (post_id (x := V.int i) R ⟨_, rfl⟩ q)
theorem c_divmod {a b : Int} (hb : b ≠ 0) (hp : Builtin.divisionGoesByPylong a b = false) (q : Q (.tup [.int (a.fdiv b), .int (a.fmod b)]) H) : WPC C A (.bi "divmod") [.int a, .int b] Q H := wpc_bi fun avs s ra R => by
  obtain ⟨v, w, rfl, r1, r2⟩ := rel2 ra
  simp only [VRel] at r1 r2; obtain ⟨t, rfl⟩ := r1; obtain ⟨u, rfl⟩ := r2
  refine divmod_int hb ?_ (.inl hp)
  refine post_ext (s := s) (x := V.tup [.int (a.fdiv b), .int (a.fmod b)]) R (fun b o e => Heap.get?_push_of_some _ e) ?_ q
  simp only [VRel]
  exact ⟨_, _, rfl, fun hX => let ⟨_, o, e⟩ := R.xl _ hX; Nat.lt_irrefl _ (Heap.lt_size e), ⟨_, Heap.get?_push_size _ rfl, rfl, 0, rfl⟩, .cons ⟨_, rfl⟩ (.cons ⟨_, rfl⟩ .nil)⟩
theorem c_chr {i : Int} (h0 : 0 ≤ i) (h1 : i ≤ 1114111) (q : Q (.str ⟨#[i.toNat]⟩) H) : WPC C A (.bi "chr") [.int i] Q H := wpc_bi fun avs s ra R => by
  obtain ⟨v, rfl, r1⟩ := rel1 ra
  simp only [VRel] at r1; obtain ⟨t, rfl⟩ := r1
  exact chr_of_range h0 h1 (post_tk (s := s) (x := V.str _) R ⟨_, rfl⟩ q)
theorem c_ord {c : Nat} (q : Q (.int c) H) : WPC C A (.bi "ord") [.str ⟨#[c]⟩] Q H := wpc_bi fun avs s ra R => by
  obtain ⟨v, rfl, r1⟩ := rel1 ra
  simp only [VRel] at r1; obtain ⟨t, rfl⟩ := r1
  exact P.ord_of_char (post_tk (s := s) (x := V.int _) R ⟨_, rfl⟩ q)
theorem c_join {l : Addr} {x : Str} {ys : List Str} (hl : (l, AO.list (ys.map V.str)) ∈ H) (hok : (ys.map (·.length)).sum + ys.length * x.length ≤ 100000) (q : Q (.str (Txt.join x ys)) H) : WPC C A (.bi "str.join") [.str x, .ref l] Q H := wpc_bi fun avs s ra R => by
  obtain ⟨v, w, rfl, r1, r2⟩ := rel2 ra
  simp only [VRel] at r1 r2; subst r2; obtain ⟨t, rfl⟩ := r1
  obtain ⟨items, pl, rvs⟩ := R.objs _ hl
  exact join_list (PlainList.isList pl) (strsAre_of rvs) (by lia) fun t' k => post_tk (s := s) (x := V.str _) R ⟨_, rfl⟩ q
end
end
noncomputable section
section
variable {C C' : Cfg} {gl : List (Str × V)} {A : Around} {env : Env} {pos tpos : Pos} {H H' : AH} {Q : V → AH → Prop} {QF : Fl → AH → Prop} {QB : Bool → AH → Prop} {QU : Unit → AH → Prop}
variable {QM : V → List V → AH → Prop}

theorem c_list_str {x : Str} (hA : A.handled = none) (hz : x.length ≤ 100000) (q : ∀ a, Q (.ref a) ((a, .list (x.cps.toList.map fun c => V.str ⟨#[c]⟩)) :: H)) : WPC C A (.ty "list") [.str x] Q H := wpc_ty fun avs s ra R => by
  obtain ⟨v, rfl, r1⟩ := rel1 ra
  simp only [VRel] at r1; obtain ⟨t, rfl⟩ := r1
  refine call_list_str hA x t (fun h' tk acc c ext e hit => ?_) (by rw [sizeLine_eq]; have : x.cps.size = x.length := rfl; lia)
  refine ⟨_, _, q _, rfl, R.add ext (Nat.le_refl _) ⟨acc, ⟨c, e⟩, ?_⟩, kept_add ext (Nat.le_refl _)⟩
  refine VsRel.of_get (by simp [hit.1]) fun i u hu => ?_
  rw [List.getElem?_map] at hu
  obtain ⟨k, hk, rfl⟩ := Option.map_eq_some_iff.mp hu
  have hlt := (List.getElem?_eq_some_iff.mp hk).1
  have hlt' : i < acc.size := by rw [hit.1]; simpa using hlt
  obtain ⟨c', u', hc, hv⟩ := hit.2 i acc[i] (Array.getElem?_eq_getElem hlt')
  refine ⟨acc[i], by simp [hlt'], ?_⟩
  simp only [VRel]
  have : c' = k := by
    have h1 : x.cps.toList[i]? = some c' := by simpa using hc
    rw [hk] at h1; exact (Option.some.inj h1).symm
  rw [hv, this]; exact ⟨u', rfl⟩

theorem c_scount {x y : Str} (q : Q (.int (Builtin.Str.occurrences x y 0 x.length (x.length + 1)).length) H) : WPC C A (.bi "str.count") [.str x, .str y] Q H := wpc_bi fun avs s ra R => by
  obtain ⟨v, w, rfl, r1, r2⟩ := rel2 ra
  simp only [VRel] at r1 r2; obtain ⟨t, rfl⟩ := r1; obtain ⟨u, rfl⟩ := r2
  exact call_meets F.slot_str_count (typeIs_str s x t) F.entry_str_count (F.args_str_count_2 _ _) (gives_str_count x y t u).meets (post_tk (s := s) (x := V.int _) R ⟨_, rfl⟩ q)

theorem op_add_list {l m : Addr} {vs us : List V} (hl : (l, AO.list vs) ∈ H) (hm : (m, AO.list us) ∈ H) (hz : vs.length + us.length ≤ 100000) (q : ∀ a, Q (.ref a) ((a, .list (vs ++ us)) :: H)) :
    Op2 C A (VRel C.X) (binaryOp .Add) (.ref l) (.ref m) Q H := fun v w s r1 r2 R => by
  simp only [VRel] at r1 r2; subst r1 r2
  obtain ⟨items, ⟨n, e⟩, rvs⟩ := R.objs _ hl
  obtain ⟨items2, ⟨n2, e2⟩, rvs2⟩ := R.objs _ hm
  have hlen := rvs.length
  have hlen2 := rvs2.length
  simp only [Array.length_toList] at hlen hlen2
  have ext : ∀ b o, s.heap.get? b = some o → (s.heap.push { cls := .type "list", data := .seq (items ++ items2) }).get? b = some o := fun b o e => Heap.get?_push_of_some _ e
  exact P.add_list e e2 ⟨_, _, q _, rfl, R.add (t := s.toks) ext (Nat.le_refl _) ⟨_, ⟨0, Heap.get?_push_size _ rfl⟩, by rw [Array.toList_append]; exact (rvs.fz (fz_of_ext ext)).append (rvs2.fz (fz_of_ext ext))⟩, kept_add (t := s.toks) ext (Nat.le_refl _)⟩ (by rw [sizeLine_eq]; lia)

theorem foldl_app (x : Value) : ∀ (n : Nat) (acc : Array Value), (List.foldl (fun x1 x2 => x1 ++ x2) acc (List.replicate n #[x])).toList = acc.toList ++ List.replicate n x
  | 0, acc => by simp
  | n + 1, acc => by
    rw [List.replicate_succ, List.foldl_cons, foldl_app x n, List.replicate_succ]
    simp
theorem rep_rel {X : List Addr} {h : Heap} {v : V} {w : Value} (r : VRel X h v w) : ∀ n, VsRel X h (List.replicate n v) (List.replicate n w)
  | 0 => VsRel.nil
  | n + 1 => by rw [List.replicate_succ, List.replicate_succ]; exact .cons r (rep_rel r n)
theorem op_mul_list {l : Addr} {v : V} {k : Int} (hl : (l, AO.list [v]) ∈ H) (h0 : 0 ≤ k) (hz : k ≤ 100000) (q : ∀ a, Q (.ref a) ((a, .list (List.replicate k.toNat v)) :: H)) :
    Op2 C A (VRel C.X) (binaryOp .Mult) (.ref l) (.int k) Q H := fun vv w s r1 r2 R => by
  simp only [VRel] at r1 r2; subst r1; obtain ⟨u, rfl⟩ := r2
  obtain ⟨items, ⟨n, e⟩, rvs⟩ := R.objs _ hl
  simp only [VsRel] at rvs
  obtain ⟨y, l', hi, ry, rfl⟩ := rvs
  obtain rfl : items = #[y] := by cases items; simpa using hi
  refine wpAny_binaryOp_repeat_ref (T := "list") (U := "int") (by decide) ⟨_, e, rfl⟩ (fun s' => typeIs_int s' k u) noFill_list_mul F.fills_int_mul F.slot_int_rmul repeat_list F.slot_int_index.lookup
    (call_meets F.slot_int_rmul (typeIs_int s k u) F.entry_int_rmul (F.args_int_rmul_2 _ _) (int___rmul___int_list k u l #[y] n)
      ⟨e, rfl, ⟨_, e, rfl⟩, call_meets F.slot_list_mul ⟨_, e, rfl⟩ F.entry_list_mul (F.args_list_mul_2 _ _)
        (AutoListH.list___mul___list_int_3 l #[y] n k u (by simp [Builtin.List.listFitsIndex]; lia) (by simp; lia) (by simp [Builtin.List.listTooLong, sizeLine]; lia)) ⟨e, ?_⟩⟩)
  generalize hD : (List.foldl (fun x1 x2 => x1 ++ x2) #[] (List.replicate (if (#[y] : Array Value).isEmpty = true then 0 else k.toNat) #[y])) = D
  have ext : ∀ b o, s.heap.get? b = some o → (s.heap.push { cls := .type "list", data := .seq D }).get? b = some o := fun b o e => Heap.get?_push_of_some _ e
  refine ⟨_, _, q _, rfl, R.add (t := s.toks) ext (Nat.le_refl _) ⟨D, ⟨0, Heap.get?_push_size _ rfl⟩, ?_⟩, kept_add (t := s.toks) ext (Nat.le_refl _)⟩
  have hDl : D.toList = List.replicate k.toNat y := by rw [← hD, foldl_app]; simp
  rw [hDl]
  exact rep_rel (ry.fz (fz_of_ext ext)) k.toNat

-- items
theorem gi_list_neg {l : Addr} {vs : List V} {i : Int} {v : V} (hl : (l, AO.list vs) ∈ H) (h0 : i < 0) (h1 : -(vs.length : Int) ≤ i) (hx : vs[(i + vs.length).toNat]? = some v) (hz : vs.length ≤ 100000) (q : Q v H) : GI C A (.ref l) (.int i) Q H := fun o iv s ro ri R => by
  simp only [VRel] at ro ri; subst ro; obtain ⟨t, rfl⟩ := ri
  obtain ⟨items, pl, rvs⟩ := R.objs _ hl
  have hlen := rvs.length
  simp only [Array.length_toList] at hlen
  obtain ⟨w, hw, rw⟩ := rvs.get hx
  exact ⟨_, _, slot_list_getitem.lookup, (PlainList.isList pl).typeIs, wpAny_getItem_list_neg (PlainList.isList pl) h0 (by rw [hlen]; exact h1) (by lia) (by rw [hlen]; simpa using hw) (post_id R rw q)⟩
theorem gi_str {x : Str} {i : Int} {c : Nat} (h0 : 0 ≤ i) (hz : x.length ≤ 100000) (hx : x.cps.toList[i.toNat]? = some c) (q : Q (.str ⟨#[c]⟩) H) : GI C A (.str x) (.int i) Q H := fun o iv s ro ri R => by
  simp only [VRel] at ro ri; obtain ⟨u, rfl⟩ := ro; obtain ⟨t, rfl⟩ := ri
  have hlt : i.toNat < x.length := by have := (List.getElem?_eq_some_iff.mp hx).1; show i.toNat < x.cps.size; simpa using this
  have e : seqIndex? i x.length = some i.toNat := by
    unfold seqIndex?
    have hn : ¬ i < 0 := by exact Int.not_lt_of_ge h0
    have h1 : i < (x.length : Int) := by exact (Int.toNat_lt h0).mp hlt
    simp [hn, h0, h1]
  exact ⟨_, _, F.slot_str_getitem.lookup, typeIs_str _ _ _, P.getItem_str (by simp; lia) (by rw [e]; simpa using hx) (post_tk (s := s) (x := V.str _) R ⟨_, rfl⟩ q)⟩
theorem gs_bytes {b : Array UInt8} {lo hi : Option Int} (hz : b.size ≤ 100000) (q : Q (.bytes (KBy.picked b lo hi)) H) : GS C A (.bytes b) lo hi none Q H := fun o sl vl vu vst s ro hs p1 p2 p3 R => by
  simp only [VRel] at ro; obtain ⟨t, rfl⟩ := ro
  cases p3
  exact ⟨"bytes", _, FB.slot_bytes_getitem.lookup, typeIs_bytes _ _ _, getItem_meets (typeIs_bytes _ _ _) (by decide) FB.slot_bytes_getitem FB.entry_bytes_getitem (FB.args_bytes_getitem_2 _ _) (KBc.meets_slice2 b t _ p1 p2)
    ⟨hs, Nat.le_trans (KBc.size_picked_le b lo hi) (by rw [sizeLine_eq]; lia), fun t' k => post_tk (s := s) (x := V.bytes _) R ⟨_, rfl⟩ q⟩⟩
theorem IsPart.val {v : Value} {o : Option Int} (p : IsPart v o) : ∃ l : Option (Int × Tok), v = partValue l ∧ l.map (·.1) = o := by
  cases p with
  | none => exact ⟨none, rfl, rfl⟩
  | int i t => exact ⟨some (i, t), rfl, rfl⟩
theorem gs_str {x y : Str} {lo hi st : Option Int} (h0 : (st.getD 1 == 0) = false) (hz : x.length ≤ 100000) (hy : y = ⟨((Builtin.Str.strSliceIndices lo hi (st.getD 1) x.length).filterMap (x.cps[·]?)).toArray⟩) (hle : (Builtin.Str.strSliceIndices lo hi (st.getD 1) x.length).length ≤ x.length)
    (hw : (st.getD 1 == 1 && (Builtin.Str.strSliceIndices lo hi (st.getD 1) x.length).length == x.length) = true → y = x) (q : Q (.str y) H) : GS C A (.str x) lo hi st Q H := fun o sl vl vu vst s ro hs p1 p2 p3 R => by
  simp only [VRel] at ro; obtain ⟨t, rfl⟩ := ro
  obtain ⟨l1, rfl, e1⟩ := IsPart.val p1
  obtain ⟨l2, rfl, e2⟩ := IsPart.val p2
  obtain ⟨l3, rfl, e3⟩ := IsPart.val p3
  subst e1 e2 e3
  refine ⟨_, _, F.slot_str_getitem.lookup, typeIs_str _ _ _, wpAny_getItem_str_slice (l := l1) (u := l2) (st := l3) hs h0 ?_⟩
  unfold sliceMade slicePicked
  split
  · rename_i hc
    have := hw hc
    exact post_id (x := V.str y) R (by simp only [VRel]; rw [this]; exact ⟨_, rfl⟩) q
  · refine ⟨?_, post_tk (s := s) (x := V.str y) R (by simp only [VRel]; rw [hy]; exact ⟨_, rfl⟩) q⟩
    have h2 := List.length_filterMap_le (x.cps[·]?) (Builtin.Str.strSliceIndices (l1.map (·.1)) (l2.map (·.1)) ((l3.map (·.1)).getD 1) x.length)
    show (List.filterMap _ _).toArray.size ≤ sizeLine
    rw [List.size_toArray, sizeLine_eq]; lia

theorem set_list {l : Addr} {vs : List V} {i : Int} {x : V} (hu : Upd l (.list vs) (.list (vs.set i.toNat x)) H H') (h0 : 0 ≤ i) (h1 : i < vs.length) (hz : vs.length ≤ 100000) (q : QU () H') : Op3 C A URel setItem (.ref l) (.int i) x QU H := fun ov iv w s ro ri rx R => by
  simp only [VRel] at ro ri; subst ro; obtain ⟨t, rfl⟩ := ri
  obtain ⟨items, ⟨n, e⟩, rvs⟩ := R.objs _ hu.mem
  have hlen := rvs.length
  simp only [Array.length_toList] at hlen
  have hT : s.TypeIs (.ref l) "list" := ⟨_, e, rfl⟩
  unfold setItem
  try with_reducible refine wpAny_holding ?_
  first | refine wpAny_bind (wpAny_pure ?_) | skip
  refine wpAny_bind (wpAny_sequenceKey hT (by decide) ?_)
  refine wpAny_bind (wpAny_callSpecial?_slot (name := Str.ofString "__setitem__") hT slot_list_setitem
    (wpAny_call_entry slot_list_setitem hT entry_list_setitem ?_ (args_list_setitem _ _ _)))
  show wpAny _ _ (Builtin.List.listSubscript? (.int i t) >>= _) _ _ s
  refine wpAny_bind (wpAny_listSubscript_int (fitsIndex_of h0 (by lia)) ?_)
  obtain ⟨j, rfl⟩ := Int.eq_ofNat_of_zero_le h0
  have hj : j < items.size := by lia
  have hx' : items[j]? = some items[j] := Array.getElem?_eq_getElem hj
  show wpAny _ _ ((seqItemAt l j >>= fun r => pure (r.map (j, ·))) >>= _) _ _ s
  refine wpAny_bind (wpAny_bind (wpAny_seqItemAt e rfl (wpAny_pure ?_)))
  rw [hx']
  show wpAny _ _ (setSeqItemAt l j w >>= _) _ _ s
  refine wpAny_bind (wpAny_setSeqItemAt e rfl ?_)
  obtain ⟨pl', hs⟩ := upd_plain (fun xs => xs.setIfInBounds j w) e
  have hf := R.list_fz hu.mem hs
  obtain ⟨R', k'⟩ := R.upd hu (h' := _) (t := s.toks) (fun b o n e => hs.extBut b o n e) ⟨_, pl', by
    refine VsRel.of_get (by simp [hlen]) fun k u hu' => ?_
    rw [Array.toList_setIfInBounds]
    simp only [Int.toNat_natCast] at hu'
    rw [List.getElem?_set] at hu'
    rw [List.getElem?_set]
    split at hu'
    · rename_i hjk
      rw [if_pos hjk, if_pos (by simpa using hj)]
      rw [if_pos (by exact Nat.lt_of_lt_of_eq hj hlen)] at hu'
      cases hu'
      exact ⟨w, rfl, rx.fz hf⟩
    · rename_i hjk
      rw [if_neg hjk]
      exact (rvs.fz hf).get hu'⟩
  have fin : Post C URel QU H s () { s with heap := s.heap.update l (Obj.mapSeq fun xs => xs.setIfInBounds j w) } := ⟨(), H', q, trivial, R', k'⟩
  first
    | exact wpAny_bind (wpAny_pure (wpAny_pure ⟨.none, rfl, wpAny_pure fin⟩))
    | exact wpAny_pure ⟨.none, rfl, wpAny_pure fin⟩

-- equality, deep
mutual
noncomputable def DRel (H : AH) : PyData → V → Prop
  | .none, v => v = .none
  | .bool b, v => v = .bool b
  | .int i, v => v = .int i
  | .str x, v => v = .str x
  | .list ds, v => ∃ a vs, v = .ref a ∧ (a, AO.list vs) ∈ H ∧ DsRel H ds vs
  | .tuple ds, v => ∃ vs, v = .tup vs ∧ DsRel H ds vs
  | .dict _, _ => False
noncomputable def DsRel (H : AH) : List PyData → List V → Prop
  | [], l => l = []
  | d :: ds, l => ∃ v r, l = v :: r ∧ DRel H d v ∧ DsRel H ds r
end
mutual
theorem DRel.reads {s : Shared} (R : Rel C H s) : ∀ {d : PyData} {v : V} {w : Value}, DRel H d v → VRel C.X s.heap v w → ∃ as, Reads s.heap w d as
  | .none, _, _, h, r => by simp only [DRel] at h; subst h; simp only [VRel] at r; subst r; exact ⟨_, .none⟩
  | .bool b, _, _, h, r => by simp only [DRel] at h; subst h; simp only [VRel] at r; subst r; exact ⟨_, .bool b⟩
  | .int b, _, _, h, r => by simp only [DRel] at h; subst h; simp only [VRel] at r; obtain ⟨t, rfl⟩ := r; exact ⟨_, .int b t⟩
  | .str b, _, _, h, r => by simp only [DRel] at h; subst h; simp only [VRel] at r; obtain ⟨t, rfl⟩ := r; exact ⟨_, .str b t⟩
  | .list ds, _, _, h, r => by
    simp only [DRel] at h
    obtain ⟨a, vs, rfl, hm, hd⟩ := h
    simp only [VRel] at r; subst r
    obtain ⟨items, ⟨n, e⟩, rvs⟩ := R.objs _ hm
    obtain ⟨as, q⟩ := DsRel.reads R hd rvs
    exact ⟨_, reads_list_at e rfl rfl q⟩
  | .tuple ds, _, _, h, r => by
    simp only [DRel] at h
    obtain ⟨vs, rfl, hd⟩ := h
    simp only [VRel] at r
    obtain ⟨a, items, rfl, _, ⟨o, e, hc, n, ho⟩, rvs⟩ := r
    obtain ⟨as, q⟩ := DsRel.reads R hd rvs
    exact ⟨_, reads_tuple_at e hc ho q⟩
  | .dict _, _, _, h, _ => by simp only [DRel] at h
theorem DsRel.reads {s : Shared} (R : Rel C H s) : ∀ {ds : List PyData} {vs : List V} {ws : List Value}, DsRel H ds vs → VsRel C.X s.heap vs ws → ∃ as, ReadsAll s.heap ws ds as
  | [], _, _, h, r => by simp only [DsRel] at h; subst h; simp only [VsRel] at r; subst r; exact ⟨_, .nil⟩
  | d :: ds, _, _, h, r => by
    simp only [DsRel] at h
    obtain ⟨v, vs, rfl, h1, h2⟩ := h
    simp only [VsRel] at r
    obtain ⟨w, ws, rfl, r1, r2⟩ := r
    obtain ⟨as, q1⟩ := DRel.reads R h1 r1
    obtain ⟨bs, q2⟩ := DsRel.reads R h2 r2
    exact ⟨_, .cons q1 q2⟩
end
theorem op_eq_data {d e : PyData} {x y : V} (hd : DRel H d x) (he : DRel H e y) (s1 : SeqAt.shaped d = true) (s2 : SeqAt.shaped e = true) (hu : A.units + 64 < cLine) (q : Q (.bool (PyData.eqv d e)) H) :
    Op2 C A (VRel C.X) (compareOp .Eq) x y Q H := fun v w s r1 r2 R => by
  obtain ⟨as, q1⟩ := hd.reads R r1
  obtain ⟨bs, q2⟩ := he.reads R r2
  exact eq_dataH q1 q2 s1 s2 hu (post_id (x := V.bool _) R rfl q)
theorem op_ne_data {d e : PyData} {x y : V} (hd : DRel H d x) (he : DRel H e y) (s1 : SeqAt.shaped d = true) (s2 : SeqAt.shaped e = true) (hu : A.units + 64 < cLine) (q : Q (.bool (!PyData.eqv d e)) H) :
    Op2 C A (VRel C.X) (compareOp .NotEq) x y Q H := fun v w s r1 r2 R => by
  obtain ⟨as, q1⟩ := hd.reads R r1
  obtain ⟨bs, q2⟩ := he.reads R r2
  exact ne_dataH q1 q2 s1 s2 hu (post_id (x := V.bool _) R rfl q)
end
end
noncomputable section
section
variable {C C' : Cfg} {gl : List (Str × V)} {A : Around} {env : Env} {pos tpos : Pos} {target : Expr} {H H' : AH} {Q : V → AH → Prop} {QF : Fl → AH → Prop} {QB : Bool → AH → Prop} {QU : Unit → AH → Prop}
variable {QM : V → List V → AH → Prop} {QI : Cfg → (Nat → AH → Option V → Prop) → AH → Prop}

-- ranges
theorem ne_add {l n : Nat} (k : Nat) (h : l < n) : l ≠ n + k := by exact PySem.W.ktu_ne k h
theorem ne_add' {l n : Nat} (h : l < n) : l ≠ n := by exact Nat.ne_of_lt h
theorem add_ne (n k : Nat) (h : k ≠ 0) : n + k ≠ n := by lia
theorem abs62 {x : Int} (h : x.natAbs < 2 ^ 60) : -(2 ^ 62) ≤ x ∧ x < 2 ^ 62 := by omega
theorem range_small {a b : Int} (h1 : a.natAbs < 2 ^ 60) (h2 : b.natAbs < 2 ^ 60) : Builtin.Range.small a b 1 = true := small_one (abs62 h1).1 (abs62 h1).2 (abs62 h2).1 (abs62 h2).2
theorem ci_call {fv : Value} {args : List V} (hnr : ∀ a, fv ≠ .ref a) {f : V} (hf : ∀ X h v, VRel X h f v → v = fv)
    (h : ∀ avs s, VsRel C.X s.heap args avs → Rel C H s → wpAny (model C.prog C.w) A (call fv avs) (fun v s₁ => wpAny (model C.prog C.w) A (pyIter v) (ItPost C A target QI H s) NoE s₁) NoE s) : CI C A target f args QI H := fun v avs s r ra R => by
  have := hf _ _ _ r; subst this
  exact ⟨keeps_nr hnr, h avs s ra R⟩
theorem ty_eq {n : String} : ∀ X h v, VRel X h (V.ty n) v → v = .type n := fun zz zz zz r => by simpa only [VRel] using r
theorem ty_nr {n : String} : ∀ a, Value.type n ≠ .ref a := fun zz e => nomatch e
theorem ci_range1 {n : Int} (hA : A.handled = none) (hn : n.natAbs < 2 ^ 60) (q : QI C (rangeItem 0 n 1) H) : CI C A target (.ty "range") [.int n] QI H := ci_call ty_nr ty_eq fun avs s ra R => by
  obtain ⟨v, rfl, r1⟩ := rel1 ra
  simp only [VRel] at r1; obtain ⟨t, rfl⟩ := r1
  refine call_range_1 ?_
  exact iter_range (s₀ := s) (t := s.toks) (u := t) (v := s.toks + 1) hA (by decide) (range_small (by decide) hn) R (fun b o e => Heap.get?_push_of_some _ e) (by rw [Heap.size_push]; exact Nat.le_succ _) ⟨_, _, rfl⟩ (Heap.get?_push_size _ rfl) q

-- a str's signs, a bytes' figures
noncomputable abbrev signItem (x : Str) := fnItem x.length (fun i => .str ⟨#[x.cps.getD i 0]⟩)
theorem pi_str {x : Str} (hA : A.handled = none) (q : QI C (signItem x) H) : PI C A target (.str x) QI H := fun v s rv R => by
  simp only [VRel] at rv; obtain ⟨t, rfl⟩ := rv
  refine wpAny_pyIter_strU ?_
  have go : ∀ (T : String) (W : Walks C.prog C.w A s.heap.objs.size [s.heap.objs.size] [s.heap.objs.size] x.cps.size (SignAt x) (fun i h => h.IsStrIter s.heap.objs.size T x t i)), T ≠ "tuple" → T ≠ "code" →
      ["enumerate", "zip", "dict_itemiterator", "dict_reverseitemiterator", "odict_iterator", "itertools.zip_longest", "itertools.pairwise"].contains T = false →
      ItPost C A target QI H s (.ref s.heap.objs.size) { s with heap := s.heap.push { cls := .type T, data := .fields #[.str x t, .int 0 0] } } := fun T W h1 h2 h3 =>
    itPost_one (tk := s.toks) R (fun zz zz e => e) (Nat.le_refl _) (src_walks (f := fun i => .str ⟨#[x.cps.getD i 0]⟩) W (fun i v h ⟨c, u, hc, hv⟩ => by
      simp only [VRel]
      have : x.cps.getD i 0 = c := by rw [Array.getD_eq_getD_getElem?, hc]; rfl
      rw [this]; exact ⟨u, hv⟩) (fun i h st => let ⟨o, e, c, d⟩ := st; ⟨o, _, e, c, d⟩) h1 h2 h3) ⟨Nat.zero_le _, ⟨_, Heap.get?_push_size _ rfl, rfl, rfl⟩⟩ q
  by_cases ha : x.cps.all (· < 128) = true
  · have e : strIterType x = "str_ascii_iterator" := by unfold strIterType; rw [if_pos ha]
    rw [e]
    exact go _ (Walks.strAscii hA _ x t) (by decide) (by decide) (by decide)
  · have e : strIterType x = "str_iterator" := by unfold strIterType; rw [if_neg ha]
    rw [e]
    exact go _ (Walks.strWide hA _ x t) (by decide) (by decide) (by decide)
noncomputable abbrev byteItem (b : Array UInt8) := fnItem b.size (fun i => .int (b.getD i 0).toNat)
theorem pi_bytes {b : Array UInt8} (hA : A.handled = none) (q : QI C (byteItem b) H) : PI C A target (.bytes b) QI H := fun v s rv R => by
  simp only [VRel] at rv; obtain ⟨t, rfl⟩ := rv
  refine KBw.pyIter_bytes ?_
  exact itPost_one (tk := s.toks) R (fun zz zz e => e) (Nat.le_refl _) (src_walks (T := "bytes_iterator") (f := fun i => .int (b.getD i 0).toNat) (KBw.walks hA _ b t) (fun i v h ⟨c, u, hc, hv⟩ => by
      simp only [VRel]
      have : b.getD i 0 = c := by rw [Array.getD_eq_getD_getElem?, hc]; rfl
      rw [this]; exact ⟨u, hv⟩) (fun i h st => let ⟨o, e, c, d⟩ := st; ⟨o, _, e, c, d⟩) (by decide) (by decide) (by decide)) ⟨Nat.zero_le _, ⟨_, Heap.get?_push_size _ rfl, rfl, rfl⟩⟩ q

-- reversed(list)
noncomputable def revItem (l : Addr) (n : Nat) : Nat → AH → Option V → Prop := fun i H r => ∃ vs, (l, AO.list vs) ∈ H ∧ vs.length = n ∧ r = vs.reverse[i]?
theorem src_rev {I l : Addr} {n : Nat} (hA : A.handled = none) (hne : l ≠ I) :
    Src C A target (.ref I) [I] [I] (fun i h => i ≤ n ∧ h.IsRevIter I l ((n : Int) - 1 - (i : Int))) (revItem l n) where
  sub := fun b h => h
  nofz := fun i h ⟨_, o, e, c, _⟩ b hb o' e' => by
    rw [List.mem_singleton.mp hb, e] at e'; cases e'; exact notFrozen_cls c (by decide) (by decide)
  live := fun i h ⟨_, o, e, _⟩ b hb => ⟨o, by rw [List.mem_singleton.mp hb]; exact e⟩
  frame := fun i h h' ⟨hi, x⟩ _ k => ⟨hi, x.at fun o e => k I (.head _) o e⟩
  self := fun i s ⟨_, h⟩ => wpAny_pyIter_revIter h ⟨rfl, rfl⟩
  item := fun i H s x ⟨hi, hit⟩ R hf ⟨vs, hm, hlen, hx⟩ => by
    obtain ⟨items, pl, rv⟩ := R.objs _ hm
    have hl := rv.length
    have hlt : i < n := by
      have := (List.getElem?_eq_some_iff.mp hx.symm).1; simpa [hlen] using this
    have hx' := hx.symm
    rw [List.getElem?_reverse (by exact Nat.lt_of_lt_of_eq hlt (id (Eq.symm hlen)))] at hx'
    obtain ⟨v, hv, rx⟩ := rv.get hx'
    have e : (n : Int) - 1 - (i : Int) = ((n - 1 - i : Nat) : Int) := by omega
    rw [e] at hit
    refine wpAny_pyNext_rev_item hit (PlainList.isList pl) (by rw [hlen] at hv; simpa using hv) fun h' hit' hs' => ⟨v, rfl, ?_⟩
    obtain ⟨o, ho, hc, hd⟩ := id hit'
    refine letGo_skip ho hc hd (by decide) ⟨h', s.toks, rfl, ?_, ⟨hlt, ?_⟩, fun b o n e => hs'.extBut b o (fun q => n (by simp [q])) e⟩
    · exact rx.fz fun a o e f => hs'.extBut a o (fun q => by
        obtain ⟨o', e', c, _⟩ := hit
        rw [q, e'] at e; cases e
        exact notFrozen_cls c (by decide) (by decide) f) e
    · have e2 : ((n - 1 - i : Nat) : Int) - 1 = (n : Int) - 1 - ((i + 1 : Nat) : Int) := by lia
      rw [e2] at hit'; exact hit'
  done := fun i H s ⟨hi, hit⟩ R hf ⟨vs, hm, hlen, hx⟩ => by
    have hge := List.getElem?_eq_none_iff.mp hx.symm
    rw [List.length_reverse, hlen] at hge
    have : (n : Int) - 1 - (i : Int) = -1 := by lia
    rw [this] at hit
    exact wpAny_pyNext_rev_end hA hit fun h' hs' => ⟨rfl, h', s.toks, rfl, fun b o n e => hs' b o (fun q => n (by simp [q])) e⟩
theorem ci_reversed {l : Addr} {vs : List V} (hA : A.handled = none) (hl : (l, AO.list vs) ∈ H) (q : QI C (revItem l vs.length) H) : CI C A target (.ty "reversed") [.ref l] QI H := ci_call ty_nr ty_eq fun avs s ra R => by
  obtain ⟨v, rfl, r1⟩ := rel1 ra
  simp only [VRel] at r1; subst r1
  obtain ⟨items, pl, rvs⟩ := R.objs _ hl
  have hlen := rvs.length
  have hlt : l < s.heap.objs.size := by obtain ⟨n, e⟩ := pl; exact Heap.lt_size e
  simp only [Array.length_toList] at hlen
  refine call_reversed_list (PlainList.isList pl) ?_
  have hr : (s.heap.push (revObj l ((items.size : Int) - 1))).IsRevIter s.heap.objs.size l ((items.size : Int) - 1) := ⟨_, Heap.get?_push_size _ rfl, rfl, rfl⟩
  refine wpAny_pyIter_revIter hr ?_
  have hr' : (s.heap.push (revObj l ((items.size : Int) - 1))).IsRevIter s.heap.objs.size l ((vs.length : Int) - 1 - ((0 : Nat) : Int)) := by
    have e0 : ((vs.length : Int) - 1 - ((0 : Nat) : Int)) = (items.size : Int) - 1 := by lia
    rw [e0]; exact hr
  exact itPost_one (tk := s.toks) R (fun zz zz e => e) (Nat.le_refl _) (src_rev (n := vs.length) hA (Nat.ne_of_lt hlt)) ⟨Nat.zero_le _, hr'⟩ q

-- enumerate
noncomputable def enumItem (Item : Nat → AH → Option V → Prop) : Nat → AH → Option V → Prop := fun i H r => ∃ x, Item i H x ∧ r = x.map fun v => .tup [.int i, v]
theorem new_tuple {X : List Addr} {h h' : Heap} {T : Addr} {vs : Array Value} {us : List V} (hX : ∀ a ∈ X, ∃ o, h.get? a = some o) (hT : h.objs.size ≤ T) (e : h'.get? T = some { cls := .type "tuple", data := .seq vs }) (r : VsRel X h' us vs.toList) : VRel X h' (.tup us) (.ref T) := by
  simp only [VRel]
  exact ⟨T, vs, rfl, fun q => let ⟨o, e⟩ := hX _ q; absurd (Heap.lt_size e) (Nat.not_lt.mpr hT), ⟨_, e, rfl, 0, rfl⟩, r⟩
theorem nf_of {X : List Addr} {h : Heap} {a : Addr} {o o' : Obj} (e : h.get? a = some o) (n : ¬ Frozen X a o) (e' : h.get? a = some o') : ¬ Frozen X a o' := Option.some.inj (e.symm.trans e') ▸ n
theorem nf_it {X : List Addr} {h : Heap} {I l : Addr} {i : Nat} (x : h.IsListIter I l i) (o' : Obj) (e' : h.get? I = some o') : ¬ Frozen X I o' := E13 x fun o e c zz => nf_of e (notFrozen_cls c (by decide) (by decide)) e'
theorem fz_but {X wr : List Addr} {h h' : Heap} (nf : ∀ b ∈ wr, ∀ o, h.get? b = some o → ¬ Frozen X b o) (k : ∀ b o, b ∉ wr → h.get? b = some o → h'.get? b = some o) : Fz X h h' := fun a o e f => k a o (fun q => nf a q o e f) e
theorem nm2 {b x y : Addr} (n : b ∉ [x, y]) : b ≠ x ∧ b ≠ y := by simpa using n
theorem VsRel.beyond {X : List Addr} {h : Heap} {us : List V} {vs : Array Value} {i : Nat} (r : VsRel X h us vs.toList) (e : us[i]? = none) : vs[i]? = none := by
  rw [Array.getElem?_eq_none_iff, ← Array.length_toList, r.length]; exact List.getElem?_eq_none_iff.mp e
structure ESt (e it l : Addr) (i : Nat) (h : Heap) : Prop where
  he : ∃ old, IsEnum h e it i old
  hit : h.IsListIter it l i
theorem ESt.nf {X : List Addr} {e it l : Addr} {i : Nat} {h : Heap} (S : ESt e it l i h) : ∀ b ∈ [e, it], ∀ o, h.get? b = some o → ¬ Frozen X b o :=
  List.forall_mem_cons.2 ⟨fun o e => S.he.elim fun zz q => nf_of q (notFrozen_cls rfl (by decide) (by decide)) e, List.forall_mem_cons.2 ⟨nf_it S.hit, nofun⟩⟩
theorem src_enum_list {e it l : Addr} {elts : List Expr} {k : Nat} (hA : A.handled = none) (hne : e ≠ it) (hel : l ≠ e) (hil : l ≠ it) :
    Src C A (.Tuple elts k tpos) (.ref e) [e, it] [e, it] (ESt e it l) (enumItem (listItem l)) where
  sub := fun b h => h
  nofz := fun i h S => S.nf
  live := fun i h S => List.forall_mem_cons.2 ⟨S.he.elim fun zz q => ⟨_, q⟩, List.forall_mem_cons.2 ⟨S.hit.elim fun o q => ⟨o, q.1⟩, nofun⟩⟩
  frame := fun i h h' S zz kk => ⟨S.he.elim fun old q => ⟨old, kk e (.head _) _ q⟩, S.hit.at fun o e => kk it (.tail _ (.head _)) o e⟩
  self := fun i s S => S.he.elim fun old q => wpAny_pyIter_enum q ⟨rfl, rfl⟩
  item := fun i H s x S R hf hx => E12 hx fun x' h1 hx => E12 h1 fun vs hm hx' => E12 (R.objs _ hm) fun items pl rv => S.he.elim fun old he => by
    obtain ⟨v, rfl, rfl⟩ := Option.map_eq_some_iff.mp hx.symm
    refine E12 (rv.get hx'.symm) fun w hw rw => wpAny_pyNext_enum_item he S.hit (PlainList.isList pl) (by simpa using hw) hne fun h' hout hit' hT hsz kk => ⟨_, rfl, wpAny_letOwnedTupleGo_enum hout fun h'' he'' hs'' => ?_⟩
    have hk : ∀ b o, b ∉ [e, it] → s.heap.get? b = some o → h''.get? b = some o := fun b o n e1 => (hs''.2 b (nm2 n).1).trans (kk b o (nm2 n).1 (nm2 n).2 e1)
    exact ⟨h'', s.toks + 1, rfl, new_tuple (vs := #[.int i s.toks, w]) (fun a ha => (R.xl a ha).2) (Nat.le_refl _) ((hs''.2 _ (Nat.ne_of_gt (Heap.lt_size he))).trans hT) (.cons ⟨_, rfl⟩ (.cons (rw.fz (fz_but S.nf hk)) .nil)),
      ⟨⟨_, by simpa using he''⟩, hit'.at fun o e1 => (hs''.2 it (Ne.symm hne)).trans e1⟩, hk⟩
  done := fun i H s S R hf hx => E12 hx fun x' h1 hx => E12 h1 fun vs hm hx' => E12 (R.objs _ hm) fun items pl rv => S.he.elim fun old he => by
    have hn : x' = none := by cases x' with | none => rfl | some _ => cases hx
    exact wpAny_pyNext_enum_end hA he S.hit (PlainList.isList pl) (rv.beyond (hx'.symm.trans hn)) fun h' hs' => ⟨rfl, h', s.toks, rfl, fun b o n e => hs' b o (nm2 n).2 e⟩
theorem itPost_two {s : Shared} {J : Nat → Heap → Prop} {Item : Nat → AH → Option V → Prop} {h' : Heap} {tk : Tok} (R : Rel C H s) (k₀ : ∀ b o, s.heap.get? b = some o → h'.get? b = some o)
    (S : Src C A target (.ref (s.heap.objs.size + 1)) [s.heap.objs.size + 1, s.heap.objs.size] [s.heap.objs.size + 1, s.heap.objs.size] J Item) (hJ : J 0 h') (q : QI C Item H) :
    ItPost C A target QI H s (.ref (s.heap.objs.size + 1)) { s with heap := h', toks := tk } := by
  refine ⟨[], _, _, J, Item, H, q, S, hJ, fun b hb => ?_, fun b hb => ?_, fun b hb => (nomatch hb), R.ext k₀, kept_of_ext k₀⟩
  · have hz : s.heap.objs.size ≤ b := by rcases List.mem_cons.mp hb with rfl | hb; exact Nat.le_add_right s.heap.objs.size 1; rw [List.mem_singleton.mp hb]; exact Nat.le_refl _
    exact fun h => absurd (R.lt h) (Nat.not_lt.mpr hz)
  · have hz : s.heap.objs.size ≤ b := by rcases List.mem_cons.mp hb with rfl | hb; exact Nat.le_add_right s.heap.objs.size 1; rw [List.mem_singleton.mp hb]; exact Nat.le_refl _
    exact ⟨R.baseNew hz, .inr (Heap.get?_none_of_le hz)⟩
theorem ci_enum_list {l : Addr} {vs : List V} {elts : List Expr} {k : Nat} (hA : A.handled = none) (hl : (l, AO.list vs) ∈ H) (q : QI C (enumItem (listItem l)) H) : CI C A (.Tuple elts k tpos) (.ty "enumerate") [.ref l] QI H := ci_call ty_nr ty_eq fun avs s ra R => by
  obtain ⟨v, rfl, r1⟩ := rel1 ra
  simp only [VRel] at r1; subst r1
  obtain ⟨items, pl, rvs⟩ := R.objs _ hl
  have hlt : l < s.heap.objs.size := by obtain ⟨n, e⟩ := pl; exact Heap.lt_size e
  refine call_enumerate_list (PlainList.isList pl) fun h' he hit hsz ext => wpAny_pyIter_enum he ?_
  exact itPost_two (tk := s.toks) R ext (src_enum_list hA (add_ne _ 1 (by decide)) (ne_add 1 hlt) (ne_add' hlt)) ⟨⟨_, he⟩, hit⟩ q
-- zip
end
end
noncomputable section
noncomputable def putE (name : Str) (u : V) : List (Str × V) → List (Str × V)
  | [] => [(name, u)]
  | (k, x) :: r => if k == name then (k, u) :: r else (k, x) :: putE name u r

theorem isStr_eq {e : DictEntry} {k : Str} {t : Tok} (h : e.key = .str k t) (name : Str) : e.key.isStr name = (k == name) := by rw [h]; rfl
theorem EsRel.found {X : List Addr} {h : Heap} {name : Str} {u : V} : ∀ {es : List (Str × V)} {l : List DictEntry}, EsRel X h es l → es.lookup name = some u → ∃ v, getL name l = some (some v) ∧ VRel X h u v
  | [], _, _, e => by simp at e
  | (k, x) :: es, l, ⟨en, r, a, ⟨t, b⟩, c, d⟩, e => by
    subst a
    have hk := isStr_eq b name
    rw [List.lookup_cons] at e
    cases q : name == k with
    | true =>
      rw [q] at e; cases e
      refine ⟨en.val, ?_, c⟩
      have : (k == name) = true := by rw [beq_iff_eq] at q ⊢; exact q.symm
      simp [getL, List.find?_cons, hk, this]
    | false =>
      rw [q] at e
      obtain ⟨v, hv, rv⟩ := EsRel.found d e
      refine ⟨v, ?_, rv⟩
      have : (k == name) = false := by rw [beq_eq_false_iff_ne] at q ⊢; exact fun h => q h.symm
      unfold getL at hv ⊢
      rw [List.find?_cons, hk, this]
      have hr : en.refKey = false := by unfold DictEntry.refKey; rw [b]
      simp only [List.any_cons, hr, Bool.false_or]
      exact hv
theorem EsRel.missing {X : List Addr} {h : Heap} {name : Str} : ∀ {es : List (Str × V)} {l : List DictEntry}, EsRel X h es l → es.lookup name = none → getL name l = some none
  | [], _, r, e => by simp only [EsRel] at r; subst r; rfl
  | (k, x) :: es, l, ⟨en, r, a, ⟨t, b⟩, c, d⟩, e => by
    subst a
    have hk := isStr_eq b name
    rw [List.lookup_cons] at e
    cases q : name == k with
    | true => rw [q] at e; cases e
    | false =>
      rw [q] at e
      have hv := EsRel.missing d e
      have : (k == name) = false := by rw [beq_eq_false_iff_ne] at q ⊢; exact fun h => q h.symm
      unfold getL at hv ⊢
      rw [List.find?_cons, hk, this]
      have hr : en.refKey = false := by unfold DictEntry.refKey; rw [b]
      simp only [List.any_cons, hr, Bool.false_or]
      exact hv
theorem EsRel.put {X : List Addr} {h : Heap} {name : Str} {u : V} {v : Value} {hsh : Int} {t : Tok} (rv : VRel X h u v) : ∀ {es : List (Str × V)} {l : List DictEntry}, EsRel X h es l → EsRel X h (putE name u es) (putL name hsh (.str name t) v l)
  | [], _, r => by simp only [EsRel] at r; subst r; exact ⟨_, _, rfl, ⟨t, rfl⟩, rv, rfl⟩
  | (k, x) :: es, l, ⟨en, r, a, ⟨t', b⟩, c, d⟩ => by
    subst a
    have hk := isStr_eq b name
    unfold putE putL
    rw [hk]
    cases q : k == name with
    | true => exact ⟨_, _, rfl, ⟨t', b⟩, rv, d⟩
    | false => exact ⟨_, _, rfl, ⟨t', b⟩, c, EsRel.put rv d⟩
theorem EsRel.length {X : List Addr} {h : Heap} : ∀ {es : List (Str × V)} {l : List DictEntry}, EsRel X h es l → l.length = es.length
  | [], _, r => by simp only [EsRel] at r; subst r; rfl
  | (k, x) :: es, l, ⟨en, r, a, _, _, d⟩ => by subst a; simp [EsRel.length d]
theorem putE_length (name : Str) (u : V) : ∀ es, (putE name u es).length ≤ es.length + 1
  | [] => by simp [putE]
  | (k, x) :: es => by
    unfold putE
    split
    · simp
    · simpa using putE_length name u es

structure ClsOk (K : Frag) (Cl : Addr) : Prop where
  get : plainGet K Cl "" = true
  dict : hasDictIn K Cl = true
  set : findIn K (.ref Cl) "__setattr__" = some (some (.builtin "object.__setattr__"))
  over : plainOver K Cl = true
  makes : makesIn K Cl = true
  keep : keepIn K (.ref Cl) = true

section
variable {C C' : Cfg} {gl : List (Str × V)} {A : Around} {env : Env} {pos tpos : Pos} {target : Expr} {H H' : AH} {Q : V → AH → Prop} {QF : Fl → AH → Prop} {QB : Bool → AH → Prop} {QU : Unit → AH → Prop}
variable {x dx Cl : Addr} {es : List (Str × V)} {name : Str} {QM : V → List V → AH → Prop}

set_option tactic.hygienic true in
theorem handed_v {X : List Addr} {h : Heap} {u : V} {v : Value} (r : VRel X h u v) (hb : ∀ i, u = .bi i → handedIn (.builtin i) = true) : handedIn v = true := by
  cases u <;> simp only [VRel] at r
  case bi id => subst r; exact hb _ rfl
  case tup => obtain ⟨a, _, rfl, _⟩ := r; rfl
  all_goals first | (subst r; rfl) | (obtain ⟨t, rfl⟩ := r; rfl)

theorem inst_at {s : Shared} (R : Rel C H s) (hx : (x, AO.obj (instObj Cl dx)) ∈ H) (hd : (dx, AO.attrs es) ∈ H) : ∃ l n, InstAt s.heap x (instObj Cl dx) Cl (some (dictOf l n)) ∧ EsRel C.X s.heap es l ∧ s.heap.get? dx = some (dictOf l n) := by
  obtain ⟨h1, _⟩ := R.objs _ hx
  obtain ⟨l, n, h2, r⟩ := R.objs _ hd
  exact ⟨l, n, ⟨h1, rfl, rfl, h2⟩, r, h2⟩

theorem ga_own {v : V} {expr : Bool} {attr : Option Value} (G : C.Ok gl) (O : ClsOk C.K Cl) (hx : (x, AO.obj (instObj Cl dx)) ∈ H) (hd : (dx, AO.attrs es) ∈ H) (hl : es.lookup name = some v) (ha : findIn C.K (.ref Cl) name = some attr) (hn : noGet C.K attr = true)
    (hb : ∀ i, v = .bi i → handedIn (.builtin i) = true) (q : Q v H) : Op1 C A (VRel C.X) (fun o => getAttr o name expr) (.ref x) Q H := fun w s rw R => by
  simp only [VRel] at rw; subst rw
  obtain ⟨l, n, I, r, _⟩ := inst_at R hx hd
  obtain ⟨v', hv, rv⟩ := r.found hl
  have X := G.kin.keeps R.keep
  exact get_value X I (plainGet_of O.get).1 (findObj_own O.dict ha hn (by rw [lookIn_dict, hv])) (handed_v rv hb) (post_tk (s := s) R rv q)

set_option tactic.hygienic true in
theorem sa_own {v : V} (G : C.Ok gl) (O : ClsOk C.K Cl) (hx : (x, AO.obj (instObj Cl dx)) ∈ H) (hu : Mine.Internal.Upd dx (.attrs es) (.attrs (putE name v es)) H H') (ht : takerIn C.K Cl name = some none) (hz : es.length ≤ 900) (q : QU () H') :
    Op2 C A URel (fun o v => setAttr o name v) (.ref x) v QU H := fun w u s rw ru R => by
  simp only [VRel] at rw; subst rw
  obtain ⟨l, n, I, r, D⟩ := inst_at R hx hu.mem
  have X := G.kin.keeps R.keep
  have hlen := r.length
  have hsome : ∃ o, getL name l = some o := by
    cases e : es.lookup name with
    | none => exact ⟨_, r.missing e⟩
    | some u => obtain ⟨v, h, _⟩ := r.found e; exact ⟨_, h⟩
  refine set_plain X I O.set ?_
  refine osa_open (s := { s with toks := s.toks + 1 }) X I O.over ht fun b => ?_
  obtain ⟨cd, hc, hd'⟩ := any_some O.dict
  have hx' := I.at_
  have e1 := putName_dict name (PyData.keyHash C.w.params name) (.str name (s.toks + 1)) u l n
  have D' : (s.heap.update dx (Obj.putName name (PyData.keyHash C.w.params name) (.str name (s.toks + 1)) u)).get? dx = some (dictOf (putL name (PyData.keyHash C.w.params name) (.str name (s.toks + 1)) u l) (putN name l n)) := by
    rw [Heap.get?_update_self _ D (by rw [e1]; rfl), e1]
  have hs : Heap.SameBut dx s.heap (s.heap.update dx (Obj.putName name (PyData.keyHash C.w.params name) (.str name (s.toks + 1)) u)) := Heap.SameBut.update ..
  have hdk : dx ∈ keys H := List.mem_map_of_mem (f := Prod.fst) hu.mem
  have hf : Fz C.X s.heap (s.heap.update dx (Obj.putName name (PyData.keyHash C.w.params name) (.str name (s.toks + 1)) u)) := fun a o e f => hs.extBut a o (fun q => R.notin e f (q ▸ hdk)) e
  refine wpAny_bind (wpAny_pure (wpAny_bind (wpAny_bind (wpAny_loadPart hx' (wpAny_bind (Looks.here (s := { s with toks := s.toks + 1 }) (looks_clsIn X hc) ?_))))))
  rw [hd']
  refine wpAny_pure (a := some dx) (wpAny_bind (wpAny_pure (wpAny_bind ?_)))
  unfold nsSet
  refine wpAny_bind (wpAny_bind (wpAny_askSetting (wpAny_pure (wpAny_bind (wpAny_mkText (wpAny_bind (wpAny_loadPart D ?_)))))))
  have c : (!l.toArray.any (·.key.isStr name) && l.toArray.any (·.refKey)) = false := by
    obtain ⟨o, ho⟩ := hsome
    unfold getL at ho
    rw [← Array.any_toList, ← Array.any_toList]
    split at ho
    · rename_i en he
      rw [List.any_eq_true.mpr ⟨en, List.mem_of_find?_eq_some he, List.find?_some he⟩]; rfl
    · split at ho
      · cases ho
      · rename_i z; rw [Bool.not_eq_true] at z; rw [z, Bool.and_false]
  dsimp only
  rw [aRefKeyMayBeTheName_at, c]
  refine wpAny_updatePart D ?_
  have hlen2 : (putL name (PyData.keyHash C.w.params name) (.str name (s.toks + 1)) u l).length ≤ 1000 := by
    have h1 := (EsRel.put (hsh := PyData.keyHash C.w.params name) (t := s.toks + 1) (name := name) ru r).length
    have h2 := putE_length name v es
    lia
  refine wpAny_bind (wpAny_lookBehind D' (pastItsLine_dict (by rw [List.size_toArray, sizeLine_eq]; lia)) ?_)
  obtain ⟨R', k'⟩ := R.upd hu (h' := _) (t := s.toks + 2) (fun b o n e => hs.extBut b o n e) ⟨_, _, D', (EsRel.put ru r).fz hf⟩
  exact wpAny_pure ⟨(), H', q, trivial, R', k'⟩

theorem gm_inst {f : Addr} (G : C.Ok gl) (O : ClsOk C.K Cl) (hx : (x, AO.obj (instObj Cl dx)) ∈ H) (hd : (dx, AO.attrs es) ∈ H) (hl : es.lookup name = none) (hf : findIn C.K (.ref Cl) name = some (some (.ref f))) (hT : isFn C.K (.ref f) = true)
    (q : QM (.ref f) [.ref x] H) : WPM C A (.ref x) name QM H := fun pl w s rw R => by
  simp only [VRel] at rw; subst rw
  obtain ⟨l, n, I, r, _⟩ := inst_at R hx hd
  have X := G.kin.keeps R.keep
  refine method_fn X I (plainGet_of O.get).1 (plainGet_of O.get).2 hf (beq_iff_eq.mp hT) (by show (lookIn name (dictOf l n)).map _ = _; rw [lookIn_dict, r.missing hl]; rfl) ?_
  exact post_id (x := (V.ref f, [V.ref x])) R ⟨rfl, .cons rfl .nil⟩ q

theorem ga_bound {f : Addr} {expr : Bool} (G : C.Ok gl) (O : ClsOk C.K Cl) (hx : (x, AO.obj (instObj Cl dx)) ∈ H) (hd : (dx, AO.attrs es) ∈ H) (hl : es.lookup name = none) (hf : findIn C.K (.ref Cl) name = some (some (.ref f))) (hT : isFn C.K (.ref f) = true)
    (hgf : specialIn C.K (.ref f) "__get__" = some (some (.builtin "function.__get__"))) (ht : takesIn C.K (.ref f) = some false) (hc : copiedNames.contains name = false)
    (q : ∀ b, Q (.ref b) ((b, .obj (methodObj (.ref f) (.ref x))) :: H)) : Op1 C A (VRel C.X) (fun o => getAttr o name expr) (.ref x) Q H := fun w s rw R => by
  simp only [VRel] at rw; subst rw
  obtain ⟨l, n, I, r, _⟩ := inst_at R hx hd
  have X := G.kin.keeps R.keep
  refine get_bind X I (plainGet_of O.get).1 (findObj_fn O.dict hf hgf ht hc (by rw [lookIn_dict, r.missing hl])) (plainGet_of O.get).2
    (wpAny_call (fn_get (s := { s with toks := s.toks + 1 }) X (beq_iff_eq.mp hT) (handed_on rfl ?_)))
  have ext : ∀ b o, s.heap.get? b = some o → (s.heap.push (methodObj (.ref f) (.ref x))).get? b = some o := fun b o e => Heap.get?_push_of_some _ e
  exact ⟨_, _, q _, rfl, R.add (t := s.toks + 1) ext (Nat.le_refl _) ⟨Heap.get?_push_size _ rfl, notFrozen_cls rfl (by decide) (by decide)⟩, kept_add (t := s.toks + 1) ext (Nat.le_refl _)⟩

theorem mk_inst {fI : Addr} {F : FnA} {D : Value → Prop} {ln : List Str} {args : List V} {vals : List (Option V)} {body : List Stmt} {n : Nat} (G : C.Ok gl) (O : ClsOk C.K Cl) (hCl : True) (hi : findIn C.K (.ref Cl) "__init__" = some (some (.ref fI))) (hT : typeIn C.K (.ref fI) = some (.type "function"))
    (hF : ∀ H s, Rel C H s → ∃ cd, D cd ∧ FnAt s.heap fI F cd) (hroom : Room A (n + 2)) (hb : F.body = .stmts body) (hbind : Binds F (ln.take (args.length + 1)))
    (hln : ∀ x ∈ ln, F.scope.names.lookup x = some .local) (nd : ln.Nodup) (hcell : ∀ x ∈ F.scope.names, x.2 ≠ .cell) (i : ∀ x, Init ln (.ref x :: args) (vals.set 0 (some (.ref x))))
    (h : ∀ x dx L cd A', Room A' n → D cd → WPS C A' (envF F L fI cd F.closure) body (fun fl H₁ => ∃ H₂, Sub H₂ H₁ ∧ fl.val = .none ∧ Q (.ref x) H₂)
      ((L, .ns ln (vals.set 0 (some (.ref x)))) :: (x, .obj (instObj Cl dx)) :: (dx, .attrs []) :: H))
    (hco : F.scope.isCoroutine = false := by rfl) (hgen : F.scope.isGenerator = false := by rfl) (hk : F.scope.kind = .function := by rfl) :
    WPC C A (.ref Cl) args Q H := fun fv avs s rf ra R => by
  simp only [VRel] at rf; subst rf
  have X := G.kin.keeps R.keep
  refine ⟨?_, ?_⟩
  · obtain ⟨k, _, hk'⟩ := looks_keep (M := model C.prog C.w) O.keep X
    exact ⟨k, fun Q' q => hk'.here q⟩
  · refine wpAny_call ?_
    obtain ⟨hh, g, d, t, os⟩ := s
    refine make_core (makes_of X O.makes) (looks_findIn X hi) (fun self => bind_fn X self hT) (.inl rfl) ?_
    have e1 : ∀ b o, hh.get? b = some o → (hh.push emptyDict).get? b = some o := fun b o e => Heap.get?_push_of_some _ e
    have e2 : ∀ b o, (hh.push emptyDict).get? b = some o → ((hh.push emptyDict).push (instObj Cl hh.objs.size)).get? b = some o := fun b o e => Heap.get?_push_of_some _ e
    have R₁ := R.add (t := t) (a := hh.objs.size) (x := .attrs []) e1 (Nat.le_refl _) ⟨[], 0, Heap.get?_push_size _ rfl, rfl⟩
    have R₂ := R₁.add (h' := (hh.push emptyDict).push (instObj Cl hh.objs.size)) (t := t) (a := hh.objs.size + 1) (x := .obj (instObj Cl hh.objs.size)) e2 (by show (hh.push emptyDict).objs.size ≤ _; rw [Heap.size_push]; exact Nat.le_refl _)
      ⟨by have := Heap.get?_push_size (hh.push emptyDict) (o := instObj Cl hh.objs.size) rfl; rw [Heap.size_push] at this; exact this, by simp [Frozen]⟩
    have k₁ : Kept H ⟨hh, g, d, t, os⟩ ((hh.objs.size, .attrs []) :: H) ⟨hh.push emptyDict, g, d, t, os⟩ := kept_add (t := t) e1 (Nat.le_refl _)
    have k₂ : Kept ((hh.objs.size, .attrs []) :: H) ⟨hh.push emptyDict, g, d, t, os⟩ ((hh.objs.size + 1, .obj (instObj Cl hh.objs.size)) :: (hh.objs.size, .attrs []) :: H) ⟨(hh.push emptyDict).push (instObj Cl hh.objs.size), g, d, t, os⟩ :=
      kept_add (s := ⟨hh.push emptyDict, g, d, t, os⟩) (t := t) e2 (by show (hh.push emptyDict).objs.size ≤ _; rw [Heap.size_push]; exact Nat.le_refl _)
    have hr' : Room (A.under (.builtin "type.__call__" ⟨.ref Cl :: avs, []⟩)) (n + 1) := by
      refine ⟨hroom.hd, ?_, ?_⟩
      · have := hroom.depth
        have e : (A.under (.builtin "type.__call__" ⟨.ref Cl :: avs, []⟩)).depth = A.depth + Code.weight (.builtin "type.__call__" ⟨.ref Cl :: avs, []⟩) := rfl
        have hw : Code.weight (.builtin "type.__call__" ⟨.ref Cl :: avs, []⟩) = 1 := by kernel_rfl
        lia
      · have := hroom.units
        have e : (A.under (.builtin "type.__call__" ⟨.ref Cl :: avs, []⟩)).units = A.units + Code.cUnits (.builtin "type.__call__" ⟨.ref Cl :: avs, []⟩) := rfl
        have hw : Code.cUnits (.builtin "type.__call__" ⟨.ref Cl :: avs, []⟩) = 1 := by kernel_rfl
        lia
    have key := code_fn (Q := fun v H₂ => v = .none ∧ Q (.ref (hh.objs.size + 1)) H₂) (H := (hh.objs.size + 1, .obj (instObj Cl hh.objs.size)) :: (hh.objs.size, .attrs []) :: H) (xs := .ref (hh.objs.size + 1) :: args) (vals := vals.set 0 (some (.ref (hh.objs.size + 1))))
      G (fun s' R' => hF _ s' R') hr' hb (by simpa using hbind) hln nd hcell (i _) (fun L cd hD => WP.mono (h (hh.objs.size + 1) hh.objs.size L cd _ (hr'.deeper _) hD) fun fl H₁ ⟨H₂, sb, e, q⟩ => ⟨H₂, sb, e, q⟩) hco hgen hk
      (.ref (hh.objs.size + 1) :: avs) _ (.cons rfl (ra.fz (fz_of_ext fun b o e => e2 b o (e1 b o e)))) R₂
    refine codeAny_mono key fun r s' hr => ?_
    cases r with
    | error e => exact hr.elim
    | ok f =>
      cases f with
      | ret v =>
        obtain ⟨u, H₂, ⟨rfl, q⟩, rv, R', k'⟩ := hr
        simp only [VRel] at rv; subst rv
        exact ⟨rfl, ⟨_, H₂, q, rfl, R', (k₁.trans k₂).trans k'⟩⟩
      | _ => exact hr.elim
end
end
noncomputable section
theorem fs_mro : mroOf (.type "function") = pure [.type "function", .type "object"] := by rw [mroOf_type]; kernel_rfl
theorem fs_slot : Slot "function" "__setattr__" "object.__setattr__" := .of (owner := "object") (n := "__setattr__") (by rw [typeLookup_type, builtinLookup_eq_fast]; kernel_rfl) (by decide +kernel) (by decide +kernel) (by decide +kernel)
    (by first | exact .inl (by decide +kernel) | exact .inr (by decide +kernel)) (by rw [isSubtype_type]; kernel_rfl)
theorem fs_pass (self : Value) : refuseLoop self "__setattr__" [.type "function", .type "object"] = pure () := by kernel_rfl
theorem fs_ga : Slot "function" "__getattribute__" "object.__getattribute__" := .of (owner := "object") (n := "__getattribute__") (by rw [typeLookup_type, builtinLookup_eq_fast]; kernel_rfl) (by decide +kernel) (by decide +kernel) (by decide +kernel)
    (by first | exact .inl (by decide +kernel) | exact .inr (by decide +kernel)) (by rw [isSubtype_type]; kernel_rfl)
theorem fs_noga : typeLookup (.type "function") "__getattr__" = pure none := by rw [typeLookup_type, builtinLookup_eq_fast]; kernel_rfl
theorem fs_has : typeHasDict (.type "function") = true := by decide +kernel
theorem fs_tells (f : Addr) : ownStreamTells (.ref f) (.type "function") = pure () := by kernel_rfl
theorem fs_made (f d : Addr) : dictMade (.type "function") f d = pure (some d) := by kernel_rfl

section
variable {C C' : Cfg} {gl : List (Str × V)} {A : Around} {env : Env} {pos tpos : Pos} {H H' : AH} {Q : V → AH → Prop} {QU : Unit → AH → Prop}
variable {f d : Addr} {Fn : FnA} {name : Str} {v : V} {QM : V → List V → AH → Prop}

theorem sa_fn (hname : typeLookup (.type "function") name = pure none) (hf : (f, AO.fn Fn) ∈ H) (q : ∀ d, ∃ H', Mine.Internal.Upd f (.fn Fn) (.fobj d) H H' ∧ QU () ((d, .attrs [(name, v)]) :: H')) :
    Op2 C A URel (fun o v => setAttr o name v) (.ref f) v QU H := fun w u s rw ru R => by
  simp only [VRel] at rw; subst rw
  obtain ⟨o, fd, ho, hc, hd, r1, r2, r3, r4, r5, r6, r7, r8, r9, r10, hdn, hsl⟩ := R.objs _ hf
  obtain ⟨oc, odi, oda, osl⟩ := o
  dsimp only at hc hd hdn hsl
  subst hc hd hdn hsl
  have hT : s.TypeIs (.ref f) "function" := ⟨_, ho, rfl⟩
  have hflt : f < s.heap.objs.size := Heap.lt_size ho
  refine wpAny_bind (wpAny_mkText (wpAny_bind (wpAny_callSpecial?_slot hT fs_slot (wpAny_call_entry fs_slot hT PySem.F.store_object.entry ?_ (PySem.F.store_object.args _ _ _)))))
  rw [osa_eq, refuse_eq]
  refine wpAny_bind (wpAny_bind (wpAny_typeOf hT (wpAny_bind (wpAny_of_eq fs_mro ?_))))
  rw [fs_pass]
  refine wpAny_pure (wpAny_bind (wpAny_typeOf hT (wpAny_bind (wpAny_of_eq hname (wpAny_bind (wpAny_pure ?_))))))
  show wpAny _ _ (Builtin.ObjectAttr.storeInOwnDict _ _ _ _ _ _) _ _ _
  unfold Builtin.ObjectAttr.storeInOwnDict
  rw [fs_tells]
  refine wpAny_bind (wpAny_pure ?_)
  rw [if_neg (show ¬ ((Value.type "function" == Value.type "module") = true) from by decide)]
  refine wpAny_bind ?_
  show wpAny _ _ (instanceDict f true) _ _ _
  unfold instanceDict
  refine wpAny_bind (wpAny_loadPart ho ?_)
  dsimp only
  rw [fs_has]
  simp only [Bool.not_true, Bool.or_self, Bool.false_eq_true, if_false]
  refine wpAny_bind (wpAny_alloc ?_)
  obtain ⟨H', hu, qq⟩ := q s.heap.objs.size
  generalize hdd : s.heap.objs.size = d at qq hu ⊢
  have hfd : f ≠ d := fun e => by rw [← hdd] at e; exact absurd hflt (by rw [e]; exact Nat.lt_irrefl _)
  -- a new dict
  have ext₁ : ∀ b o, s.heap.get? b = some o → (s.heap.push emptyDict).get? b = some o := fun b o e => Heap.get?_push_of_some _ e
  have R₁ : Rel C ((d, .attrs []) :: H) { s with heap := s.heap.push emptyDict, toks := s.toks + 1 } := R.add ext₁ (by rw [hdd]; exact Nat.le_refl _) ⟨[], 0, by rw [← hdd]; exact Heap.get?_push_size _ rfl, rfl⟩
  have k₁ : Kept H s ((d, .attrs []) :: H) { s with heap := s.heap.push emptyDict, toks := s.toks + 1 } := kept_add ext₁ (by rw [hdd]; exact Nat.le_refl _)
  -- it becomes the function's own
  have hof := ext₁ _ _ ho
  refine wpAny_bind (wpAny_update hof ?_)
  generalize hh2 : (s.heap.push emptyDict).update f (fun o => { cls := o.cls, dict := some d, data := o.data, slots := o.slots }) = h₂
  have g₂ : h₂.get? f = some { cls := .type "function", dict := some d, data := .func fd } := by rw [← hh2]; exact Heap.get?_update_self _ hof rfl
  have s₂ : Heap.SameBut f (s.heap.push emptyDict) h₂ := hh2 ▸ Heap.SameBut.update ..
  obtain ⟨R₂, k₂⟩ := R₁.upd (h' := h₂) (t := s.toks + 1) (.tail hu) (fun b o n e => s₂.extBut b o n e) (y := .fobj d) ⟨fd, g₂⟩
  rw [fs_made]
  refine wpAny_pure ?_
  show wpAny _ _ (Builtin.ObjectAttr.storeInDict d (.str name s.toks) name u) _ _ _
  have D : h₂.get? d = some (dictOf [] 0) := s₂.extBut _ _ (Ne.symm hfd) (by rw [← hdd]; exact Heap.get?_push_size _ rfl)
  have e1 := putName_dict name (PyData.keyHash C.w.params name) (.str name (s.toks + 1)) u [] 0
  have D' : (h₂.update d (Obj.putName name (PyData.keyHash C.w.params name) (.str name (s.toks + 1)) u)).get? d = some (dictOf (putL name (PyData.keyHash C.w.params name) (.str name (s.toks + 1)) u []) (putN name [] 0)) := by
    rw [Heap.get?_update_self _ D (by rw [e1]; rfl), e1]
  have s₃ : Heap.SameBut d h₂ (h₂.update d (Obj.putName name (PyData.keyHash C.w.params name) (.str name (s.toks + 1)) u)) := Heap.SameBut.update ..
  have hf₂ : Fz C.X s.heap h₂ := fun a o e f' => s₂.extBut a o (fun q => by rw [q] at e; simp only [] at ho; rw [ho] at e; cases e; simp [Frozen] at f') (ext₁ a o e)
  have hf₃ : Fz C.X h₂ (h₂.update d (Obj.putName name (PyData.keyHash C.w.params name) (.str name (s.toks + 1)) u)) := fun a o e f' => s₃.extBut a o (fun q => by rw [q, D] at e; cases e; simp [Frozen] at f') e
  refine wpAny_bind (wpAny_pure (wpAny_bind ?_))
  unfold nsSet
  refine wpAny_bind (wpAny_bind (wpAny_askSetting (wpAny_pure (wpAny_bind (wpAny_mkText (wpAny_bind (wpAny_loadPart D ?_)))))))
  dsimp only [dictOf]
  rw [aRefKeyMayBeTheName_at, show (!([] : List DictEntry).toArray.any (·.key.isStr name) && ([] : List DictEntry).toArray.any (·.refKey)) = false from by simp]
  refine wpAny_updatePart D ?_
  refine wpAny_bind (wpAny_lookBehind D' (pastItsLine_dict (by simp [putL, sizeLine_eq])) ?_)
  obtain ⟨R₃, k₃⟩ := R₂.upd (t := s.toks + 2) (y := .attrs [(name, v)]) (.head) (fun b o n e => s₃.extBut b o n e) ⟨_, _, D', EsRel.put (es := []) ((ru.fz hf₂).fz hf₃) rfl⟩
  exact wpAny_pure ⟨.none, rfl, wpAny_pure ⟨(), _, qq, trivial, R₃, (k₁.trans k₂).trans k₃⟩⟩

theorem gm_fobj {es : List (Str × V)} {v : V} (hname : typeLookup (.type "function") name = pure none) (hf : (f, AO.fobj d) ∈ H) (hd : (d, AO.attrs es) ∈ H) (hl : es.lookup name = some v) (hb : ∀ i, v = .bi i → handedIn (.builtin i) = true)
    (q : QM v [] H) : WPM C A (.ref f) name QM H := fun pl w s rw R => by
  simp only [VRel] at rw; subst rw
  obtain ⟨fd, ho⟩ := R.objs _ hf
  obtain ⟨l, n, hdd, r⟩ := R.objs _ hd
  obtain ⟨u, hu, ru⟩ := r.found hl
  simp only [] at ho hdd
  have hT : s.TypeIs (.ref f) "function" := ⟨_, ho, rfl⟩
  have hcan := PySem.F.canon_object_ga
  unfold getMethod
  refine wpAny_bind (wpAny_specialOf hT fs_ga.lookup ?_)
  dsimp only
  rw [hcan, if_neg Bool.false_ne_true]
  refine wpAny_bind (wpAny_specialOf hT fs_noga ?_)
  simp only [Option.isSome_none, Bool.false_eq_true, if_false]
  refine wpAny_bind (wpAny_specialOf hT hname ?_)
  dsimp only
  refine wpAny_bind ?_
  unfold getAttr getAttrBy
  refine wpAny_bind (wpAny_mkText (wpAny_holding ?_))
  have hT' : Shared.TypeIs { s with toks := s.toks + 1 } (.ref f) "function" := hT
  refine wpAny_bind (wpAny_typeOf hT' (wpAny_bind (wpAny_of_eq fs_ga.lookup ?_)))
  dsimp only
  rw [if_neg (by decide)]
  unfold getAttrByItsOwn
  refine wpAny_bind (wpAny_of_eq (a := none) rfl ?_)
  refine wpAny_bind (wpAny_attempt (wpAny_holding ?_))
  show wpAny _ _ (boundAndCalled _ _ _) _ _ _
  unfold boundAndCalled
  rw [fs_ga.bind]
  refine wpAny_bind (wpAny_pure ?_)
  refine wpAny_call_entry fs_ga hT' PySem.F.entry_object_getattribute ?_ (PySem.F.args_object_getattribute_2 _ _)
  show wpAny _ _ (typeOf (.ref f) >>= fun tp => Builtin.ObjectAttr.find (.ref f) tp name >>= _) _ _ _
  refine wpAny_bind (wpAny_typeOf hT' (wpAny_bind ?_))
  unfold Builtin.ObjectAttr.find
  refine wpAny_bind (wpAny_of_eq hname (wpAny_bind (wpAny_pure (wpAny_bind (wpAny_pure ?_)))))
  show wpAny _ _ (Builtin.ObjectAttr.ownThenClass _ _ _ _) _ _ _
  unfold Builtin.ObjectAttr.ownThenClass
  refine wpAny_bind ?_
  show wpAny _ _ (Builtin.ObjectAttr.ownDict f >>= fun d => Builtin.ObjectAttr.inDict name d) _ _ _
  refine wpAny_bind (wpAny_bind (wpAny_loadPart ho ?_))
  show wpAny _ _ (instanceDict f false) _ _ _
  unfold instanceDict
  refine wpAny_bind (wpAny_loadPart ho (wpAny_pure ?_))
  show wpAny _ _ (nsGet d name) _ _ _
  unfold nsGet
  refine wpAny_bind (wpAny_loadPart hdd ?_)
  rw [nsLook_of (r := some u) (by rw [lookIn_dict]; exact hu)]
  refine wpAny_pure (wpAny_bind (wpAny_rule (wpAny_pure ?_)))
  refine wpAny_pure ⟨u, rfl, ?_⟩
  show wpAny _ _ (handedOut u) _ _ _
  rw [handedOut_of (handed_v ru hb)]
  exact wpAny_pure (wpAny_pure (post_tk (s := s) (x := (v, [])) R ⟨ru, .nil⟩ q))
end
end
noncomputable section
theorem ci_iter : Slot "callable_iterator" "__iter__" "callable_iterator.__iter__" := .of (owner := "callable_iterator") (n := "__iter__") (by rw [typeLookup_type, builtinLookup_eq_fast]; kernel_rfl) (by decide +kernel) (by decide +kernel) (by decide +kernel)
    (by first | exact .inl (by decide +kernel) | exact .inr (by decide +kernel)) (by rw [isSubtype_type]; kernel_rfl)
theorem ci_next : Slot "callable_iterator" "__next__" "callable_iterator.__next__" := .of (owner := "callable_iterator") (n := "__next__") (by rw [typeLookup_type, builtinLookup_eq_fast]; kernel_rfl) (by decide +kernel) (by decide +kernel) (by decide +kernel)
    (by first | exact .inl (by decide +kernel) | exact .inr (by decide +kernel)) (by rw [isSubtype_type]; kernel_rfl)
theorem ci_entry_iter : entryFor table "callable_iterator.__iter__" = some Builtin.«dict_keyiterator.__iter__» :=
  entryFor_alias (id' := "dict_keyiterator.__iter__") (by kernel_rfl) (by first | rfl | decide +kernel | (unfold String.splitOn; simp +decide [String.splitOnAux])) (by decide +kernel) (by kernel_rfl)
theorem ci_entry_next : entryFor table "callable_iterator.__next__" = some Builtin.«callable_iterator.__next__» := entryFor_of_tree (by kernel_rfl)
theorem ci_args_iter (a : Value) : argsOk "callable_iterator.__iter__" ⟨[a], []⟩ := by unfold argsOk; kernel_rfl
theorem ci_args_next (a : Value) : argsOk "callable_iterator.__next__" ⟨[a], []⟩ := by unfold argsOk; kernel_rfl
theorem it_kind : builtinKind "iter" = none := by decide +kernel
theorem it_plain : plainId "iter" = true := by decide +kernel
theorem it_entry : entryFor table "iter" = some Builtin.«iter» := entryFor_of_tree (by kernel_rfl)
theorem it_args (a b : Value) : argsOk "iter" ⟨[a, b], []⟩ := by unfold argsOk; kernel_rfl
theorem it_call : ∃ r, typeLookup (.type "method") "__call__" = pure (some r) := ⟨.builtin "method.__call__", by rw [typeLookup_type, builtinLookup_eq_fast]; kernel_rfl⟩

noncomputable abbrev ciObj (q : Addr) (t : Tok) : Obj := { cls := .type "callable_iterator", data := .fields #[.ref q, .str "" t, .bool false] }
noncomputable abbrev ciEnd : Obj := { cls := .type "callable_iterator", data := .fields #[.none, .none, .bool true] }

section
variable {C C' : Cfg} {gl : List (Str × V)} {A : Around} {env : Env} {pos tpos : Pos} {H H' : AH} {Q : V → AH → Prop} {QU : Unit → AH → Prop} {QF : Fl → AH → Prop}
variable {m x f I : Addr} {t : Tok} {QM : V → List V → AH → Prop}

theorem c_iter2 (hm : (m, AO.obj (methodObj (.ref f) (.ref x))) ∈ H) (q : ∀ a t, Q (.ref a) ((a, .obj (ciObj m t)) :: H)) : WPC C A (.bi "iter") [.ref m, .str ""] Q H := wpc_bi fun avs s ra R => by
  obtain ⟨v, w, rfl, r1, r2⟩ := rel2 ra
  simp only [VRel] at r1 r2; subst r1; obtain ⟨t, rfl⟩ := r2
  obtain ⟨ho, _⟩ := R.objs _ hm
  have hT : s.TypeIs (.ref m) "method" := ⟨_, ho, rfl⟩
  obtain ⟨r, hr⟩ := it_call
  refine Calls.call_function_entry it_kind it_plain it_entry (it_args _ _) ?_
  unfold Builtin.«iter»
  refine wpAny_bind (wpAny_of_eq (a := [.ref m, .str "" t]) (by first | rfl | kernel_rfl) ?_)
  dsimp only
  refine wpAny_bind (wpAny_specialOf hT hr ?_)
  simp only [Option.isNone_some, Bool.false_eq_true, if_false]
  refine wpAny_bind (wpAny_rule ?_)
  show wpAny _ _ (newFields _ _ >>= _) _ _ _
  refine wpAny_bind (wpAny_newObj_type ?_ (by size_fits))
  have ext : ∀ b o, s.heap.get? b = some o → (s.heap.push (ciObj m t)).get? b = some o := fun b o e => Heap.get?_push_of_some _ e
  exact wpAny_pure ⟨_, rfl, ⟨_, _, q _ t, rfl, R.add (t := s.toks) ext (Nat.le_refl _) ⟨Heap.get?_push_size _ rfl, notFrozen_cls rfl (by decide) (by decide)⟩, kept_add (t := s.toks) ext (Nat.le_refl _)⟩⟩

theorem wpAny_callBorrowed {M : Model} {A : Around} {E : Value → Shared → Prop} {s : Shared} {f : Value} {pos : List Value} {Q : Value → Shared → Prop}
    (hc : codeAny M A (.call f ⟨pos, []⟩) (fun r s' => match r with | .ok (.ret v) => Q v s' | .ok _ => False | .error e => E e s') s) : wpAny M A (callBorrowed f pos) Q E s := fun Γ p hΓ => by
  have h := wpAny_runValue (Q := Q) (E := E) hc Γ p hΓ
  rw [Sem.wp_runValue] at h
  have e : Sem.wp M Γ (callBorrowed f pos) (fun a zz s' => Q a s') (fun a zz s' => E a s') p s = wpCode M (Γ.enter (.call f ⟨pos, []⟩) none p) (fun r s' => match r with | .ok (.ret v) => Q v s' | .ok _ => False | .error e => E e s') p s := by
    unfold callBorrowed
    rw [Sem.wp]
    congr 1
    funext r s'
    cases r with
    | error e => rfl
    | ok f => cases f <;> rfl
  exact e ▸ h

noncomputable def ORelV (X : List Addr) (h : Heap) (o : Option V) (w : Option Value) : Prop := match o with | some x => ∃ v, w = some v ∧ VRel X h x v | none => w = none
noncomputable def WPN (C : Cfg) (A : Around) (it : Value) (Q : Option V → AH → Prop) (H : AH) : Prop := WP C A (ORelV C.X) (pyNext it) Q H
variable {QN : Option V → AH → Prop}

theorem stop_tail {prog : Program} {w : World} {A : Around} {s : Shared} {Q : Option Value → Shared → Prop} {α : Type} {R : α → Shared → Prop} (hA : A.handled = none)
    (hQ : ∀ e h', (∀ b o, s.heap.get? b = some o → h'.get? b = some o) → (∃ o, h'.get? e = some o ∧ o.cls = .type "StopIteration") → Q none { s with heap := h' }) :
    wpAny (model prog w) A.in1 (Builtin.SmallTypes.stopIteration : Sem α) R (fun x s' => wpAny (model prog w) A (isInstance x (.type "StopIteration") >>= fun b => if b = true then pure none else throw x) Q NoE s') s := by
  unfold Builtin.SmallTypes.stopIteration
  refine wpAny_bind ?_
  simp only [newExc, newTuple]
  refine wpAny_bind (wpAny_newObj_type ?_ (by size_fits))
  refine wpAny_bind (m := firstArgMember _ _) (wpAny_of_eq (a := Value.none) (by first | rfl | (simp only [firstArgMember]; rfl)) ?_)
  refine wpAny_newObj_type ?_ (by size_fits)
  simp only [raiseNew]
  refine wpAny_bind (wpAny_handled ?_)
  rw [show A.in1.handled = none from hA]
  refine wpAny_bind (wpAny_pure (wpAny_throw ?_))
  refine wpAny_bind (wpAny_isInstance (T := "StopIteration") (b := true) ⟨_, Heap.get?_push_size _ rfl, rfl⟩ isSubtype_stop ?_)
  exact wpAny_pure (hQ _ _ (fun b o e => Heap.get?_push_of_some _ (Heap.get?_push_of_some _ e)) ⟨_, Heap.get?_push_size _ rfl, rfl⟩)

theorem nx_end (hA : A.handled = none) (hI : (I, AO.obj ciEnd) ∈ H) (q : QN none H) : WPN C A (.ref I) QN H := fun s R => by
  obtain ⟨ho, _⟩ := R.objs _ hI
  have hT : s.TypeIs (.ref I) "callable_iterator" := ⟨_, ho, rfl⟩
  unfold pyNext
  refine wpAny_bind (wpAny_attempt (wpAny_callSpecial?_slot (name := Str.ofString "__next__") hT ci_next (wpAny_call_entry ci_next hT ci_entry_next ?_ (ci_args_next _))))
  show wpAny _ _ (field (.ref I) 2 >>= _) _ _ _
  refine wpAny_bind (wpAny_field ho rfl (x := .bool true) rfl ?_)
  show wpAny _ _ (if (Value.bool true == Value.bool true) = true then _ else _) _ _ _
  rw [if_pos (by decide)]
  refine wpAny_bind (wpAny_rule ?_)
  refine wpAny_bind (stop_tail hA fun e h' ext zz => ?_)
  exact post_ext (s := s) (tk := s.toks) (x := (none : Option V)) R ext rfl q

noncomputable def CodeC (C : Cfg) (A : Around) (f : Addr) (args : List V) (Q : V → AH → Prop) (H : AH) : Prop :=
  ∀ avs s, VsRel C.X s.heap args avs → Rel C H s → codeAny (model C.prog C.w) A (.call (.ref f) ⟨avs, []⟩) (fun r s' => match r with | .ok (.ret v) => Post C (VRel C.X) Q H s v s' | .ok _ => False | .error e => NoE e s') s
theorem WPC.of_code {args : List V} (hf : ∀ s, Rel C H s → ∃ o fd, s.heap.get? f = some o ∧ o.data = .func fd) (h : CodeC C A f args Q H) : WPC C A (.ref f) args Q H := fun fv avs s rf ra R => by
  simp only [VRel] at rf; subst rf
  obtain ⟨o, fd, ho, hd⟩ := hf s R
  refine ⟨⟨.frame, fun Q' q => ?_⟩, wpAny_call (h avs s ra R)⟩
  unfold keeperOf
  refine wpAny_bind (wpAny_load ho ?_)
  rw [hd]
  exact wpAny_pure q
theorem borrows {M : Model} {E : Value → Shared → Prop} {s : Shared} {o : Obj} {fd : FuncData} {P : Bool → Shared → Prop} {sf : Value} (hm : s.heap.get? m = some (methodObj (.ref f) sf)) (ho : s.heap.get? f = some o) (hd : o.data = .func fd) (h : P true s) :
    wpAny M A (borrowsExactly (.ref m)) P E s := by
  unfold borrowsExactly
  refine wpAny_bind (wpAny_load hm ?_)
  dsimp only
  rw [if_pos (by decide)]
  show wpAny _ _ (load f >>= _) _ _ _
  refine wpAny_bind (wpAny_load ho ?_)
  rw [hd]
  exact wpAny_pure h
theorem CodeC.use {R : Result → Shared → Prop} {args : List V} {avs : List Value} {s : Shared} (h : CodeC C A f args Q H) (ra : VsRel C.X s.heap args avs) (Rl : Rel C H s) (k : ∀ v s', Post C (VRel C.X) Q H s v s' → R (.ok (.ret v)) s') :
    codeAny (model C.prog C.w) A (.call (.ref f) ⟨avs, []⟩) R s := codeAny_mono (h avs s ra Rl) fun r s' hr => by
  rcases r with e | (_ | _ | _ | v)
  · exact hr.elim
  · exact hr.elim
  · exact hr.elim
  · exact hr.elim
  · exact k v s' hr
theorem nx_call (hA : A.handled = none) (hI : (I, AO.obj (ciObj m t)) ∈ H) (hm : (m, AO.obj (methodObj (.ref f) (.ref x))) ∈ H) (hf : ∀ H s, Rel C H s → ∃ o fd, s.heap.get? f = some o ∧ o.data = .func fd)
    (h : CodeC C A.in1 f [.ref x] (fun v H₁ => ∃ c, v = .str c ∧ (I, AO.obj (ciObj m t)) ∈ H₁ ∧ (m, AO.obj (methodObj (.ref f) (.ref x))) ∈ H₁ ∧ (c ≠ "" → QN (some (.str c)) H₁) ∧
      (c = "" → ∃ H₂, Mine.Internal.Upd I (.obj (ciObj m t)) (.obj ciEnd) H₁ H₂ ∧ QN none H₂)) H) : WPN C A (.ref I) QN H := fun s R => by
  have ho : s.heap.get? I = some (ciObj m t) := (R.objs _ hI).1
  have hmo : s.heap.get? m = some (methodObj (.ref f) (.ref x)) := (R.objs _ hm).1
  refine E22 (hf H s R) fun of fd hof hfd => ?_
  have hT : s.TypeIs (.ref I) "callable_iterator" := ⟨_, ho, rfl⟩
  unfold pyNext
  refine wpAny_bind (wpAny_attempt (wpAny_callSpecial?_slot (name := Str.ofString "__next__") hT ci_next (wpAny_call_entry ci_next hT ci_entry_next ?_ (ci_args_next _))))
  show wpAny _ _ (field (.ref I) 2 >>= _) _ _ _
  refine wpAny_bind (wpAny_field ho rfl (x := .bool false) rfl ?_)
  show wpAny _ _ (if (Value.bool false == Value.bool true) = true then _ else _) _ _ _
  rw [if_neg (by decide)]
  show wpAny _ _ (field (.ref I) 0 >>= _) _ _ _
  refine wpAny_bind (wpAny_field ho rfl (x := .ref m) rfl ?_)
  refine wpAny_bind (wpAny_attempt ?_)
  unfold callOutOfASlot
  refine wpAny_bind (borrows hmo hof hfd ?_)
  rw [if_pos rfl]
  refine wpAny_callBorrowed (ks_codeAny_call_bound hmo (h.use (.cons rfl .nil) R fun v s₁ p => Post.el p fun v' H₁ q rv R₁ k₁ => E15 q fun c e hI₁ hm₁ q1 q2 => E11 (show ∃ u, v = .str c u by subst e; simpa only [VRel] using rv) fun u e => ?_))
  subst e
  have ho₁ : s₁.heap.get? I = some (ciObj m t) := (R₁.objs _ hI₁).1
  dsimp only
  show wpAny _ _ (field (.ref I) 2 >>= _) _ _ _
  refine wpAny_bind (wpAny_field ho₁ rfl (x := .bool false) rfl ?_)
  show wpAny _ _ (if (Value.bool false == Value.bool true) = true then _ else _) _ _ _
  rw [if_neg (by decide)]
  show wpAny _ _ (field (.ref I) 1 >>= _) _ _ _
  refine wpAny_bind (wpAny_field ho₁ rfl (x := .str "" t) rfl ?_)
  refine wpAny_bind (wpAny_holding (eqBool_str ?_))
  by_cases hc : c = ""
  · subst hc
    rw [if_neg (by decide)]
    refine wpAny_bind (wpAny_rule ?_)
    refine E12 (q2 rfl) fun H₂ hu q => E22 (hf H₁ s₁ R₁) fun of₁ fd₁ hof₁ hfd₁ => wpAny_bind ?_
    show wpAny _ _ (field (.ref I) 0 >>= _) _ _ _
    refine wpAny_bind (wpAny_field ho₁ rfl (x := .ref m) rfl ?_)
    refine wpAny_bind ?_
    unfold slotLetsGo
    refine wpAny_bind (borrows (R₁.objs _ hm₁).1 hof₁ hfd₁ ?_)
    rw [if_pos rfl]
    refine wpAny_pure ?_
    refine wpAny_bind (wpAny_setField_rec ho₁ (Nat.le_of_ble_eq_true rfl) fun h₁ e₁ s₁' => ?_)
    refine wpAny_bind (wpAny_setField_rec e₁ (Nat.le_of_ble_eq_true rfl) fun h₂ e₂ s₂' => ?_)
    refine wpAny_setField_rec e₂ (Nat.le_of_ble_eq_true rfl) fun h₃ e₃ s₃' => ?_
    have e₃' : h₃.get? I = some ciEnd := by simpa using e₃
    have sb := (s₁'.trans s₂').trans s₃'
    have R₂ := R₁.upd (h' := h₃) (t := s₁.toks) hu (fun b o n e => sb.extBut b o n e) (y := .obj ciEnd) ⟨e₃', notFrozen_cls rfl (by decide) (by decide)⟩
    refine stop_tail (s := { s₁ with heap := h₃, toks := s₁.toks }) hA fun e h' ext zz => ?_
    exact ⟨none, H₂, q, rfl, R₂.1.ext (t := s₁.toks) ext, (k₁.trans R₂.2).trans (kept_of_ext (t := s₁.toks) ext)⟩
  · have hne : (("" : Str) == c) = false := beq_eq_false_iff_ne.mpr fun e => hc e.symm
    rw [hne]
    simp only [Bool.not_false, if_true]
    exact wpAny_pure ⟨_, rfl, wpAny_pure ⟨some (.str c), H₁, q1 hc, ⟨_, rfl, u, rfl⟩, R₁, k₁⟩⟩

theorem wp1_ForE {iter : Expr} {y : Str} {py : Pos} {body orelse : List Stmt} (I : Addr) (J : Nat → AH → Prop) (N : Nat)
    (hself : ∀ i H₁ s, J i H₁ → Rel C H₁ s → wpAny (model C.prog C.w) A (pyIter (.ref I)) (fun v s' => v = .ref I ∧ s' = s) NoE s)
    (h0 : WP C A (VRel C.X) (eval iter env) (fun x H₁ => x = .ref I ∧ J 0 H₁) H)
    (h : ∀ i H₁, i ≤ N → J i H₁ → WPN C A (.ref I) (fun r H₂ => match r with
      | some x => i < N ∧ WPA C A env (.Name y py) x (fun zz H₃ => WPS C A env body (TurnEnd (J (i + 1)) QF) H₃) H₂
      | none => WPS C A env orelse QF H₂) H₁)
    (hs : ∀ x, foldedSetIterable iter env x = pure x := by intro _; rfl) : WP1 C A env (.For (.Name y py) iter body orelse pos) QF H := fun s R => by
  refine wpAny_For (hs := hs) (wpAny_mono (h0 s R) (fun v s₁ p138 => Post.el p138 fun x H₁ p139 rv R₁ k₁ => p139.elim fun hx hJ => ?_) fun zz zz e => e.elim)
  subst hx
  simp only [VRel] at rv
  subst rv
  refine wpAny_mono (hself 0 H₁ s₁ hJ R₁) (fun it s₂ ⟨e1, e2⟩ => ?_) fun zz zz e => e.elim
  subst e1 e2
  refine codeAny_mono (codeAny_forLoop_any (R := fun r s' => match r with
      | .ok f => Post C (FRel C.X) QF H s f s' | .error e => False) (WSt C J N H s) (fun n s₁ L => ?_) (N + 1)
    ⟨0, H₁, rfl, Nat.zero_le _, hJ, R₁, k₁⟩) fun r s' hr => ?_
  · cases L with | mk i H₂ hn hi hI R₂ k₂ =>
    refine wpAny_mono (h i H₂ hi hI s₁ R₂) (fun r s₃ p141 => Post.el p141 fun o H₃ q ro R₃ k₃ => ?_) fun zz zz e => e.elim
    cases o with
    | none =>
      cases ro
      exact wpAny_mono (q s₃ R₃) (fun f s₄ p => post_then k₂ (post_then k₃ p)) fun zz zz e => e.elim
    | some x =>
      obtain ⟨v, rfl, rv⟩ := ro
      refine wpAny_of_eq (a := ()) rfl (wpAny_mono (q.2 v s₃ rv R₃) (fun zz s₄ p142 => Post.el p142 fun zz H₄ q₄ zz R₄ k₄ => wpAny_mono (q₄ s₄ R₄) (fun f s₅ p143 => Post.el p143 fun fl H₅ q₅ rf R₅ k₅ => ?_) fun zz zz e => e.elim) fun zz zz e => e.elim)
      have kk := ((k₂.trans k₃).trans k₄).trans k₅
      exact TurnEnd.cases q₅ rf (fun q₃ => ⟨N + 1 - (i + 1), hn ▸ Nat.sub_lt_sub_left (Nat.lt_succ_of_le hi) (Nat.lt_succ_self i), i + 1, H₅, rfl, q.1, q₃, R₅, kk⟩) (fun q => ⟨.next, H₅, q, rfl, R₅, kk⟩) fun u w q rw => ⟨.ret u, H₅, q, ⟨w, rfl, rw⟩, R₅, kk⟩
  · cases r with
    | error e => exact hr.elim
    | ok f => exact hr
theorem ci_self {o : Obj} (hc : o.cls = .type "callable_iterator") (hI : (I, AO.obj o) ∈ H) {s : Shared} (R : Rel C H s) : wpAny (model C.prog C.w) A (pyIter (.ref I)) (fun v s' => v = .ref I ∧ s' = s) NoE s := by
  obtain ⟨ho, _⟩ := R.objs _ hI
  have hT : s.TypeIs (.ref I) "callable_iterator" := ⟨_, ho, hc⟩
  refine wpAny_pyIter_slot hT ci_iter (wpAny_call_entry ci_iter hT ci_entry_iter ?_ (ci_args_iter _))
  show wpAny _ _ (ret (.ref I)) _ _ s
  exact wpAny_pure ⟨_, rfl, "callable_iterator", _, hT, ci_next.lookup, rfl, rfl⟩
end
end
noncomputable section
noncomputable def bareFd (fd : FuncData) (p : Arguments) (d k : Value) : FuncData := { fd with params := p, defaults := d, kwdefaults := k }
theorem bindsN {F : FnA} {pn : List Str} (h : ∀ (fd : FuncData) (vs : List Value), vs.length = pn.length → bindArgs (bareFd fd F.params .none .none) ⟨vs, []⟩ = pure (pn.zip vs)) : Binds F pn := fun fd vs hp hd hk hl =>
  (congrArg (bindArgs · ⟨vs, []⟩) (show bareFd fd fd.params fd.defaults fd.kwdefaults = bareFd fd F.params .none .none by rw [hp, hd, hk])).trans (h fd vs hl)
theorem lenS {α : Type} {P : List α → Prop} {n : Nat} (h : ∀ a l, l.length = n → P (a :: l)) : ∀ l, l.length = n + 1 → P l
  | a :: l, e => h a l (Nat.succ.inj e)
theorem len0 {α : Type} {P : List α → Prop} (h : P []) (l : List α) (e : l.length = 0) : P l := List.length_eq_zero_iff.mp e ▸ h
theorem binds0 {F : FnA} (h : ∀ fd, bindArgs (bareFd fd F.params .none .none) ⟨[], []⟩ = pure []) : Binds F [] := bindsN fun fd => len0 (h fd)
theorem binds1 {F : FnA} {x : Str} (h : ∀ fd a, bindArgs (bareFd fd F.params .none .none) ⟨[a], []⟩ = pure [(x, a)]) : Binds F [x] := bindsN fun fd => lenS fun a => len0 (h fd a)
theorem binds2 {F : FnA} {x y : Str} (h : ∀ fd a b, bindArgs (bareFd fd F.params .none .none) ⟨[a, b], []⟩ = pure [(x, a), (y, b)]) : Binds F [x, y] := bindsN fun fd => lenS fun a => lenS fun b => len0 (h fd a b)
theorem binds3 {F : FnA} {x y z : Str} (h : ∀ fd a b c, bindArgs (bareFd fd F.params .none .none) ⟨[a, b, c], []⟩ = pure [(x, a), (y, b), (z, c)]) : Binds F [x, y, z] := bindsN fun fd => lenS fun a => lenS fun b => lenS fun c => len0 (h fd a b c)
theorem binds5 {F : FnA} {x y z u v : Str} (h : ∀ fd a b c d e, bindArgs (bareFd fd F.params .none .none) ⟨[a, b, c, d, e], []⟩ = pure [(x, a), (y, b), (z, c), (u, d), (v, e)]) : Binds F [x, y, z, u, v] := bindsN fun fd => lenS fun a => lenS fun b => lenS fun c => lenS fun d => lenS fun e => len0 (h fd a b c d e)
noncomputable abbrev dbg (x : Str) : Prop := (x == ("__debug__" : Str)) = false ∧ (x == ("__classdict__" : Str)) = false
structure FnOk (F : FnA) (pn ln gn cn fn : List Str) : Prop where
  binds : Binds F pn
  hl : ∀ x ∈ ln, F.scope.names.lookup x = some .local ∧ dbg x
  hg : ∀ x ∈ gn, F.scope.names.lookup x = some .globalImplicit ∧ dbg x
  hc : ∀ x ∈ cn, F.scope.names.lookup x = some .cell ∧ dbg x
  hf : ∀ x ∈ fn, F.scope.names.lookup x = some .free ∧ dbg x
  nd : ln.Nodup
  ndp : pn.Nodup
  ndc : cn.Nodup
  ndf : fn.Nodup
  allc : ∀ x ∈ F.scope.names, x.2 = .cell → x.1 ∈ cn
  pk : ∀ x ∈ pn, x ∈ ln ∨ x ∈ cn
  cells : ∀ L, (cellsFrom (L + 1) F.scope.names []).map (·.1) = cn
  co : F.scope.isCoroutine = false
  gen : F.scope.isGenerator = false
  kind : F.scope.kind = .function

noncomputable def fnChk (sc : Scope) (pn ln gn cn fn : List Str) : Bool := decide ((∀ x ∈ ln, sc.names.lookup x = some .local ∧ dbg x) ∧ (∀ x ∈ gn, sc.names.lookup x = some .globalImplicit ∧ dbg x) ∧ (∀ x ∈ cn, sc.names.lookup x = some .cell ∧ dbg x) ∧ (∀ x ∈ fn, sc.names.lookup x = some .free ∧ dbg x) ∧
  ln.Nodup ∧ pn.Nodup ∧ cn.Nodup ∧ fn.Nodup ∧ (∀ x ∈ sc.names, x.2 = .cell → x.1 ∈ cn) ∧ (∀ x ∈ pn, x ∈ ln ∨ x ∈ cn) ∧ sc.isCoroutine = false ∧ sc.isGenerator = false ∧ sc.kind = .function)
theorem fnOk {F : FnA} {pn ln gn cn fn : List Str} (b : Binds F pn) (c : fnChk F.scope pn ln gn cn fn = true) (cells : ∀ L, (cellsFrom (L + 1) F.scope.names []).map (·.1) = cn) : FnOk F pn ln gn cn fn :=
  have k := of_decide_eq_true c
  ⟨b, k.1, k.2.1, k.2.2.1, k.2.2.2.1, k.2.2.2.2.1, k.2.2.2.2.2.1, k.2.2.2.2.2.2.1, k.2.2.2.2.2.2.2.1, k.2.2.2.2.2.2.2.2.1, k.2.2.2.2.2.2.2.2.2.1, cells, k.2.2.2.2.2.2.2.2.2.2.1, k.2.2.2.2.2.2.2.2.2.2.2.1, k.2.2.2.2.2.2.2.2.2.2.2.2⟩
theorem FnOk.cellsLook {F : FnA} {pn ln gn cn fn : List Str} (O : FnOk F pn ln gn cn fn) (L : Addr) {p : Str × Addr} (h : p ∈ cellsFrom (L + 1) F.scope.names []) : p.1 ∈ cn ∧ (cellsFrom (L + 1) F.scope.names []).lookup p.1 = some p.2 :=
  ⟨O.cells L ▸ List.mem_map_of_mem (f := Prod.fst) h, lookup_of_mem (by rw [O.cells L]; exact O.ndc) h⟩

theorem FnOk.env {F : FnA} {pn ln gn fn : List Str} (O : FnOk F pn ln gn [] fn) (L fa : Addr) (cd : Value) (hclo : F.closure.map (·.1) = fn) : FEnv (envF F L fa cd F.closure) L ln F.closure gn where
  kind := O.kind
  loc := rfl
  glob := rfl
  blt := rfl
  hl := fun x hx => let ⟨a, b, _⟩ := O.hl x hx; ⟨a, b⟩
  hc := fun p hp => let ⟨a, b, c⟩ := O.hf p.1 (hclo ▸ List.mem_map_of_mem (f := Prod.fst) hp); ⟨.inr a, lookup_of_mem (by show (F.closure.map (·.1)).Nodup; rw [hclo]; exact O.ndf) hp, b, c⟩
  hg := fun x hx => let ⟨a, b, _⟩ := O.hg x hx; ⟨a, b⟩
theorem FnOk.envC {F : FnA} {pn ln gn cn : List Str} (O : FnOk F pn ln gn cn []) (L fa : Addr) (cd : Value) : FEnv (envF F L fa cd (cellsFrom (L + 1) F.scope.names [])) L ln (cellsFrom (L + 1) F.scope.names []) gn where
  kind := O.kind
  loc := rfl
  glob := rfl
  blt := rfl
  hl := fun x hx => let ⟨a, b, _⟩ := O.hl x hx; ⟨a, b⟩
  hc := fun p hp => let ⟨h1, h2⟩ := O.cellsLook L hp; let ⟨a, b, c⟩ := O.hc p.1 h1; ⟨.inl a, h2, b, c⟩
  hg := fun x hx => let ⟨a, b, _⟩ := O.hg x hx; ⟨a, b⟩

section
variable {C : Cfg} {gl : List (Str × V)} {A : Around} {H H' : AH} {Q : V → AH → Prop}

theorem code_ok {fa : Addr} {F : FnA} {D : Value → Prop} {pn ln gn fn : List Str} {xs : List V} {vals : List (Option V)} {body : List Stmt} {n : Nat} (O : FnOk F pn ln gn [] fn)
    (G : C.Ok gl) (hF : ∀ s, Rel C H s → ∃ cd, D cd ∧ FnAt s.heap fa F cd) (hroom : Room A (n + 1)) (hb : F.body = .stmts body) (hp : ln.take xs.length = pn) (i : Init ln xs vals) {cl : List (Str × Addr)} (hcl : F.closure = cl) (hclo : cl.map (·.1) = fn)
    (h : ∀ L cd A' env, Room A' n → D cd → FEnv env L ln cl gn → env = envF F L fa cd F.closure → WPS C A' env body (fun fl H₁ => ∃ H₂, Sub H₂ H₁ ∧ Q fl.val H₂) ((L, .ns ln vals) :: H)) :
    CodeC C A fa xs Q H :=
  code_fn G hF hroom hb (hp ▸ O.binds) (fun x hx => (O.hl x hx).1) O.nd (fun x hx e => nomatch O.allc x hx e) i (fun L cd hD => h L cd _ _ (hroom.deeper _) hD (hcl ▸ O.env L fa cd (hcl.symm ▸ hclo)) rfl) O.co O.gen O.kind
theorem call_ok {fa : Addr} {F : FnA} {D : Value → Prop} {pn ln gn fn : List Str} {xs : List V} {vals : List (Option V)} {body : List Stmt} {n : Nat} (O : FnOk F pn ln gn [] fn)
    (G : C.Ok gl) (hF : ∀ s, Rel C H s → ∃ cd, D cd ∧ FnAt s.heap fa F cd) (hroom : Room A (n + 1)) (hb : F.body = .stmts body) (hp : ln.take xs.length = pn) (i : Init ln xs vals) {cl : List (Str × Addr)} (hcl : F.closure = cl) (hclo : cl.map (·.1) = fn)
    (h : ∀ L cd A' env, Room A' n → D cd → FEnv env L ln cl gn → env = envF F L fa cd F.closure → WPS C A' env body (fun fl H₁ => ∃ H₂, Sub H₂ H₁ ∧ Q fl.val H₂) ((L, .ns ln vals) :: H)) :
    WPC C A (.ref fa) xs Q H :=
  WPC.of_code (fun s R => (hF s R).elim fun cd p => p.2.ex.elim fun o p => p.elim fun fd q => ⟨o, fd, q.get, q.dat⟩) (code_ok O G hF hroom hb hp i hcl hclo h)
theorem call_okE {fa : Addr} {F : FnA} {D : Value → Prop} {pn ln gn fn : List Str} {xs : List V} {vals : List (Option V)} {body : Expr} {n : Nat} (O : FnOk F pn ln gn [] fn)
    (G : C.Ok gl) (hF : ∀ s, Rel C H s → ∃ cd, D cd ∧ FnAt s.heap fa F cd) (hroom : Room A (n + 1)) (hb : F.body = .expr body) (hp : ln.take xs.length = pn) (i : Init ln xs vals) {cl : List (Str × Addr)} (hcl : F.closure = cl) (hclo : cl.map (·.1) = fn)
    (h : ∀ L cd A' env, Room A' n → D cd → FEnv env L ln cl gn → env = envF F L fa cd F.closure → WP C A' (VRel C.X) (eval body env) (fun v H₁ => ∃ H₂, Sub H₂ H₁ ∧ Q v H₂) ((L, .ns ln vals) :: H)) :
    WPC C A (.ref fa) xs Q H :=
  call_fnE G hF hroom hb (hp ▸ O.binds) (fun x hx => (O.hl x hx).1) O.nd (fun x hx e => nomatch O.allc x hx e) i (fun L cd hD => h L cd _ _ (hroom.deeper _) hD (hcl ▸ O.env L fa cd (hcl.symm ▸ hclo)) rfl) O.co O.gen O.kind
theorem code_okC {fa : Addr} {F : FnA} {cd : Value} {pn ln gn cn : List Str} {xs : List V} {vals : List (Option V)} {body : List Stmt} {n : Nat} (O : FnOk F pn ln gn cn [])
    (G : C.Ok gl) (hF : ∀ s, Rel C H s → FnAt s.heap fa F cd) (hroom : Room A (n + 1)) (hb : F.body = .stmts body) (hclo : F.closure = []) (hpl : pn.length = xs.length)
    (hv : ln.length = vals.length) (hvals : ∀ (k : Nat) x u, ln[k]? = some x → vals[k]? = some (some u) → At pn (xs.map some) x u)
    (h : ∀ L cs A' env, cs.map (·.1) = cn → Room A' n → FEnv env L ln cs gn → env = envF F L fa cd cs → ∃ Hc, CInit pn (xs.map some) cs Hc ∧ WPS C A' env body (fun fl H₁ => ∃ H₂, Sub H₂ H₁ ∧ Q fl.val H₂) (Hc ++ (L, .ns ln vals) :: H)) :
    CodeC C A fa xs Q H :=
  code_fnC G hF hroom hb hclo O.binds hpl O.ndp (fun x hx => (O.hl x hx).1) O.nd (fun x hx => by
      rcases O.pk x hx with h | h
      · exact .inl (O.hl x h).1
      · exact .inr (O.hc x h).1)
    (fun L x hx hk => by
      have hm : x ∈ cn := by
        rcases O.pk x hx with h | h
        · rw [(O.hl x h).1] at hk; cases hk
        · exact h
      rw [← O.cells L] at hm
      obtain ⟨p, hp, rfl⟩ := List.mem_map.mp hm
      rw [(O.cellsLook L hp).2]; rfl)
    (fun L p hp => ⟨(O.hc p.1 (O.cellsLook L hp).1).1, (O.cellsLook L hp).2⟩) hv hvals
    (fun L => by
      obtain ⟨Hc, ci, hw⟩ := h L _ _ _ (O.cells L) (hroom.deeper _) (O.envC L fa cd) rfl
      exact ⟨Hc, ci, hw⟩) O.co O.gen O.kind
theorem call_okC {fa : Addr} {F : FnA} {cd : Value} {pn ln gn cn : List Str} {xs : List V} {vals : List (Option V)} {body : List Stmt} {n : Nat} (O : FnOk F pn ln gn cn [])
    (G : C.Ok gl) (hF : ∀ s, Rel C H s → FnAt s.heap fa F cd) (hroom : Room A (n + 1)) (hb : F.body = .stmts body) (hclo : F.closure = []) (hpl : pn.length = xs.length)
    (hv : ln.length = vals.length) (hvals : ∀ (k : Nat) x u, ln[k]? = some x → vals[k]? = some (some u) → At pn (xs.map some) x u)
    (h : ∀ L cs A' env, cs.map (·.1) = cn → Room A' n → FEnv env L ln cs gn → env = envF F L fa cd cs → ∃ Hc, CInit pn (xs.map some) cs Hc ∧ WPS C A' env body (fun fl H₁ => ∃ H₂, Sub H₂ H₁ ∧ Q fl.val H₂) (Hc ++ (L, .ns ln vals) :: H)) :
    WPC C A (.ref fa) xs Q H :=
  WPC.of_code (fun s R => (hF s R).ex.elim fun o p => p.elim fun fd q => ⟨o, fd, q.get, q.dat⟩) (code_okC O G hF hroom hb hclo hpl hv hvals h)

structure CpOk (sc : Scope) (ln gn fn : List Str) : Prop where
  hl : ∀ x ∈ ln, sc.names.lookup x = some .local ∧ dbg x
  hg : ∀ x ∈ gn, sc.names.lookup x = some .globalImplicit ∧ dbg x
  hf : ∀ x ∈ fn, sc.names.lookup x = some .free ∧ dbg x
  all : ∀ x ∈ sc.names, x.2 = .free → x.1 ∈ fn
  nocell : ∀ x ∈ sc.names, x.2 ≠ .cell
  nodup : (sc.names.map (·.1)).Nodup
  nd : ln.Nodup
  kind : sc.kind = .function

noncomputable def cpChk (sc : Scope) (ln gn fn : List Str) : Bool := decide ((∀ x ∈ ln, sc.names.lookup x = some .local ∧ dbg x) ∧ (∀ x ∈ gn, sc.names.lookup x = some .globalImplicit ∧ dbg x) ∧ (∀ x ∈ fn, sc.names.lookup x = some .free ∧ dbg x) ∧
  (∀ x ∈ sc.names, x.2 = .free → x.1 ∈ fn) ∧ (∀ x ∈ sc.names, x.2 ≠ .cell) ∧ (sc.names.map (·.1)).Nodup ∧ ln.Nodup ∧ sc.kind = .function ∧ (sc.names.filter (·.2 == .free)).map (·.1) = fn ∧ fn.Nodup)
theorem cpOk {sc : Scope} {ln gn fn : List Str} (c : cpChk sc ln gn fn = true) : CpOk sc ln gn fn ∧ (sc.names.filter (·.2 == .free)).map (·.1) = fn ∧ fn.Nodup :=
  have k := of_decide_eq_true c
  ⟨⟨k.1, k.2.1, k.2.2.1, k.2.2.2.1, k.2.2.2.2.1, k.2.2.2.2.2.1, k.2.2.2.2.2.2.1, k.2.2.2.2.2.2.2.1⟩, k.2.2.2.2.2.2.2.2.1, k.2.2.2.2.2.2.2.2.2⟩
theorem closure_go {env : Env} {cn : List (Str × Addr)} (hc : ∀ p ∈ cn, env.cells.lookup p.1 = some p.2) : ∀ (names : List (Str × NameKind)) (fs : List Str) (cs : List Addr) (acc : List (Str × Addr)),
    (names.filter (·.2 == .free)).map (·.1) = fs → fs.length = cs.length → (∀ p ∈ fs.zip cs, p ∈ cn) →
    (forIn names acc (fun x r => if (x.2 == NameKind.free) = true then (do let a ← cellOf env x.1; pure (ForInStep.yield ((x.1, a) :: r))) else pure (ForInStep.yield r)) : Sem (List (Str × Addr))) = pure ((fs.zip cs).reverse ++ acc)
  | [], fs, cs, acc, e, _, _ => by subst e; rfl
  | (n, k) :: names, fs, cs, acc, e, hl, hm => by
    rw [List.forIn_cons]
    by_cases hk : (k == NameKind.free) = true
    · rw [List.filter_cons_of_pos (by simpa using hk)] at e
      cases fs with
      | nil => simp at e
      | cons f fs =>
        cases cs with
        | nil => simp at hl
        | cons c cs =>
          simp only [List.map_cons, List.cons.injEq] at e
          obtain ⟨rfl, e⟩ := e
          have h1 := hc _ (hm (n, c) (by simp))
          have h2 : cellOf env n = pure c := by
            unfold cellOf
            simp only [] at h1
            rw [h1]
          dsimp only
          rw [if_pos hk, h2]
          simp only [pure_bind]
          rw [closure_go hc names fs cs _ e (by simpa using hl) fun p hp => hm p (by simp [hp])]
          simp
    · rw [List.filter_cons_of_neg (by simpa using hk)] at e
      dsimp only
      rw [if_neg hk]
      simp only [pure_bind]
      exact closure_go hc names fs cs acc e hl hm
theorem closure_of {env : Env} {L : Addr} {ln gn fs : List Str} {cn : List (Str × Addr)} {cs : List Addr} {sc : Scope} (FE : FEnv env L ln cn gn) (e : (sc.names.filter (·.2 == .free)).map (·.1) = fs) (hl : fs.length = cs.length) (hm : ∀ p ∈ fs.zip cs, p ∈ cn) :
    closureFor sc env = pure (fs.zip cs).reverse := by
  have := closure_go (fun p hp => (FE.hc p hp).2.1) sc.names fs cs [] e hl hm
  show ((forIn sc.names [] (fun x r => if (x.2 == NameKind.free) = true then (do let a ← cellOf env x.1; pure (ForInStep.yield ((x.1, a) :: r))) else pure (ForInStep.yield r)) : Sem (List (Str × Addr))) >>= fun r => pure r) = _
  rw [this]
  simp

theorem lookup_relabel {env : Env} : ∀ (names : List (Str × NameKind)) (x : Str),
    (names.map fun (n, k) => if (k == NameKind.free && env.scope.kind == .function && env.kindOf n == some .cell) then (n, NameKind.cell) else (n, k)).lookup x =
      (names.lookup x).map fun k => if (k == NameKind.free && env.scope.kind == .function && env.kindOf x == some .cell) then NameKind.cell else k
  | [], x => rfl
  | (n, k) :: r, x => by
    rw [List.map_cons, List.lookup_cons, List.lookup_cons]
    by_cases hc : (k == NameKind.free && env.scope.kind == .function && env.kindOf n == some .cell) = true
    · rw [if_pos hc]
      dsimp only
      cases q : x == n with
      | true =>
        have : x = n := beq_iff_eq.mp q
        subst this
        simp only [Option.map_some, if_pos hc]
      | false => exact lookup_relabel r x
    · rw [if_neg hc]
      dsimp only
      cases q : x == n with
      | true =>
        have : x = n := beq_iff_eq.mp q
        subst this
        simp only [Option.map_some, if_neg hc]
      | false => exact lookup_relabel r x
theorem CpOk.env {env : Env} {L L' : Addr} {ln ln' gn gn' fs : List Str} {cn : List (Str × Addr)} {cs : List Addr} {sc : Scope} (O : CpOk sc ln gn fs) (FE : FEnv env L' ln' cn gn') (hl : fs.length = cs.length) (ndf : fs.Nodup) :
    FEnv (compEnvC sc (fs.zip cs).reverse L env) L ln (fs.zip cs).reverse gn where
  kind := O.kind
  loc := rfl
  glob := FE.glob
  blt := FE.blt
  hl := fun x hx => by
    obtain ⟨a, b, _⟩ := O.hl x hx
    refine ⟨?_, b⟩
    show List.lookup x (relabel sc env).names = _
    unfold relabel
    rw [lookup_relabel, a]; rfl
  hg := fun x hx => by
    obtain ⟨a, b, _⟩ := O.hg x hx
    refine ⟨?_, b⟩
    show List.lookup x (relabel sc env).names = _
    unfold relabel
    rw [lookup_relabel, a]; rfl
  hc := fun p hp => by
    have hm : (fs.zip cs).map (·.1) = fs := List.map_fst_zip (Nat.le_of_eq hl)
    have hp' : p ∈ fs.zip cs := List.mem_reverse.mp hp
    obtain ⟨a, b, c⟩ := O.hf p.1 (hm ▸ List.mem_map_of_mem (f := Prod.fst) hp')
    refine ⟨?_, lookup_rev (by rw [hm]; exact ndf) hp', b, c⟩
    show List.lookup p.1 (relabel sc env).names = _ ∨ List.lookup p.1 (relabel sc env).names = _
    unfold relabel
    rw [lookup_relabel, a]
    simp only [Option.map_some]
    split
    · exact .inl rfl
    · exact .inr rfl

variable {env : Env} {L : Addr} {ln gn : List Str} {cn : List (Str × Addr)} {pos tpos : Pos} {QF : Fl → AH → Prop}
theorem nodup_lookup {sc : Scope} (nd : (sc.names.map (·.1)).Nodup) : ∀ x ∈ sc.names, x.2 = .local → sc.names.lookup x.1 = some .local := fun x hx e => by
  rw [← e]; exact lookup_of_mem nd hx
theorem FEnv.block (FE : FEnv env L ln cn gn) : env.blockKind = .function := by
  unfold Env.blockKind
  rw [FE.kind]; rfl
theorem FEnv.inter (FE : FEnv env L ln cn gn) : interactive env = false := by
  unfold interactive
  rw [FE.kind]; rfl
theorem swaps_true (FE : FEnv env L ln cn gn) {elt : Expr} {gens : List Comprehension} {scope : Scope} {p tp : Pos} {t : Str} {l : Nat} (ht : t ∈ ln) (hline : (tp.line == p.line) = true) (hn : (scope.names.any fun x => x.1 == t && (x.2 == .local || x.2 == .cell)) = false) :
    swapsWith (.ListComp elt gens scope p) (some (.Name t tp)) l env = pure true := by
  have h1 := FE.block
  have h2 := (FE.hl t ht).1
  show pure (env.blockKind == .function && env.kindOf t == some .local && tp.line == p.line && !(scope.names.any fun x => x.1 == t && (x.2 == .local || x.2 == .cell))) = _
  rw [h1, h2, hline, hn]; rfl

theorem wp_LC {elt target iter : Expr} {ifs : List Expr} {scope : Scope} {fs ln' gn' : List Str} {cs : List Addr} (FE : FEnv env L ln cn gn) (c : cpChk scope ln' gn' fs = true) (hm : ∀ p ∈ fs.zip cs, p ∈ cn)
    (h : WPI C A env iter target (fun C' Item H₁ => ∀ a c cenv, FEnv cenv c ln' (fs.zip cs).reverse gn' → CompTurns C C' A cenv target ifs elt a Item
      (fun acc H₂ => ∃ vals H₃, Pick (c, .ns ln' vals) H₂ H₃ ∧ Q (.ref a) H₃) ((c, .ns ln' (ln'.map fun zz => none)) :: (a, .list []) :: H₁)) H)
    (hl : fs.length = cs.length := by with_unfolding_all rfl)
    (hs : ∀ x, foldedSetIterable iter env x = pure x := by intro _; with_unfolding_all rfl) :
    WP C A (VRel C.X) (eval (.ListComp elt [⟨target, iter, ifs, 0⟩] scope pos) env) Q H :=
  have ⟨O, e, ndf⟩ := cpOk c; wp_ListComp (closure_of FE e hl hm) O.nocell O.kind (nodup_lookup O.nodup) O.nd (h.mono fun zz zz zz q a c => q a c _ (O.env FE hl ndf)) hs
theorem wp1_LC {elt target iter : Expr} {ifs : List Expr} {scope : Scope} {fs ln' gn' : List Str} {cs : List Addr} {y : Str} {py spos : Pos} (FE : FEnv env L ln cn gn) (c : cpChk scope ln' gn' fs = true) (hm : ∀ p ∈ fs.zip cs, p ∈ cn)
    (hy : y ∈ ln) (hn : (scope.names.any fun x => x.1 == y && (x.2 == .local || x.2 == .cell)) = false)
    (h : WPI C A env iter target (fun C' Item H₁ => ∀ a c cenv, FEnv cenv c ln' (fs.zip cs).reverse gn' → CompTurns C C' A cenv target ifs elt a Item
      (fun acc H₂ => Op1 C A URel (storeName env y) (.ref a) (fun zz H₃ => ∃ vals H₄, Pick (c, .ns ln' vals) H₃ H₄ ∧ QF .next H₄) H₂) ((c, .ns ln' (ln'.map fun zz => none)) :: (a, .list []) :: H₁)) H)
    (hline : (py.line == pos.line) = true := by with_unfolding_all rfl) (hl : fs.length = cs.length := by with_unfolding_all rfl)
    (hs : ∀ x, foldedSetIterable iter env x = pure x := by intro _; with_unfolding_all rfl) :
    WP1 C A env (.Assign [.Name y py] (.ListComp elt [⟨target, iter, ifs, 0⟩] scope pos) spos) QF H :=
  have ⟨O, e, ndf⟩ := cpOk c; wp1_Assign_ListComp (swaps_true FE hy hline hn) (closure_of FE e hl hm) O.nocell O.kind (nodup_lookup O.nodup) O.nd (h.mono fun zz zz zz q a c => q a c _ (O.env FE hl ndf)) hs
noncomputable def notStar : Expr → Bool
  | .Starred .. => false
  | _ => true
theorem swap2 (FE : FEnv env L ln cn gn) {a b : Str} {pa pb p p' : Pos} {k k' : Nat} {x y : Expr} (ha : a ∈ ln) (hb : b ∈ ln) (hab : (a == b) = false) (h1 : (pb.line == pa.line) = true) (hx : notStar x = true) (hy : notStar y = true)
    (hf : ([x, y].all (foldedForSure 8)) = false) (hc : ([x, y].all (constantsAlone 8)) = false) :
    swappedStores [.Tuple [.Name a pa, .Name b pb] k p] (.Tuple [x, y] k' p') env = pure (some [a, b]) := by
  have e1 := FE.block
  have e2 := (FE.hl a ha).1
  have e3 := (FE.hl b hb).1
  unfold swappedStores
  have he : [a, b].eraseDups = [a, b] := by
    have : (b == a) = false := by rw [beq_eq_false_iff_ne] at hab ⊢; exact fun e => hab e.symm
    simp [List.eraseDups_cons, this]
  dsimp only
  rw [e1, if_neg (by simp)]
  have hs : ∀ z, notStar z = true → (match z with | Expr.Starred _ _ => true | _ => false) = false := by intro z hz; cases z <;> first | rfl | cases hz
  have h3 : ([x, y].any fun x => match x with | Expr.Starred _ _ => true | _ => false) = false := by
    rw [List.any_cons, List.any_cons, List.any_nil, hs x hx, hs y hy]; rfl
  refine (if_neg (by intro h; exact Bool.false_ne_true (h3.symm.trans h))).trans ?_
  generalize hL : List.filterMap _ [Expr.Name a pa, Expr.Name b pb] = l
  have hl : l = [a, b] := by
    rw [← hL]
    have h2 : ((Option.map (fun x : Expr => x.pos.line) [Expr.Name a pa, Expr.Name b pb].head?).getD 0) = pa.line := rfl
    rw [h2]
    simp only [List.filterMap_cons, List.filterMap_nil, e2, e3, h1, beq_self_eq_true, Bool.and_self, if_true]
  subst hl
  rw [if_neg (by rw [he]; simp), if_neg (by rw [hf]; decide), if_neg (by rw [hc]; decide)]
end
end
noncomputable section
-- plain facts: digits, splices, bits
noncomputable def digs (x n k : Nat) : List Nat := (List.range k).map fun i => x / 2 ^ (n * i) % 2 ^ n
theorem digs_length (x n k : Nat) : (digs x n k).length = k := by simp [digs]
theorem digs_one {x n : Nat} (h : x < 2 ^ n) : digs x n 1 = [x] := by simp [digs, Nat.mod_eq_of_lt h]
theorem digs_add (x n j k : Nat) : digs x n (j + k) = digs (x % 2 ^ (n * j)) n j ++ digs (x / 2 ^ (n * j)) n k := by
  unfold digs
  rw [List.range_add, List.map_append]
  congr 1
  · refine List.map_congr_left fun i hi => ?_
    have hi : i < j := List.mem_range.mp hi
    have h1 : n * j = n * i + n * (j - i) := by rw [← Nat.mul_add, Nat.add_sub_cancel' (Nat.le_of_lt hi)]
    rw [h1, Nat.pow_add, Nat.mod_mul_right_div_self]
    have h2 : n * (j - i) = n + n * (j - i - 1) := by
      have : j - i = 1 + (j - i - 1) := (Nat.add_sub_cancel' (Nat.sub_pos_of_lt hi)).symm
      rw [this, Nat.mul_add]; simp
    rw [h2, Nat.pow_add, Nat.mod_mul_right_mod]
  · rw [List.map_map]
    refine List.map_congr_left fun i zz => ?_
    show x / 2 ^ (n * (j + i)) % 2 ^ n = _
    rw [Nat.mul_add, Nat.pow_add, Nat.div_div_eq_div_mul]
noncomputable def splice {α : Type} (vs : List α) (i : Nat) (D : List α) : List α := vs.take i ++ D ++ vs.drop (i + D.length)
theorem splice_length {α : Type} {vs : List α} {i : Nat} {D : List α} (h : i + D.length ≤ vs.length) : (splice vs i D).length = vs.length := by
  rw [splice, List.length_append, List.length_append, List.length_take, List.length_drop, Nat.min_eq_left (Nat.le_trans (Nat.le_add_right _ _) h)]; exact Nat.add_sub_cancel' h
theorem splice_one {α : Type} {vs : List α} {i : Nat} {x : α} (h : i < vs.length) : vs.set i x = splice vs i [x] := by
  rw [splice, List.set_eq_take_append_cons_drop, if_pos h]; simp
theorem splice_splice {α : Type} {vs : List α} {i : Nat} {D E : List α} (h : i + D.length + E.length ≤ vs.length) : splice (splice vs i D) (i + D.length) E = splice vs i (D ++ E) := by
  have h1 : (vs.take i).length = i := by rw [List.length_take]; exact Nat.min_eq_left (Nat.le_trans (Nat.le_add_right _ _) (Nat.le_trans (Nat.le_add_right _ _) h))
  unfold splice
  have h2 : List.take (i + D.length) (vs.take i ++ D ++ vs.drop (i + D.length)) = vs.take i ++ D := by
    rw [List.take_append_of_le_length (by simp; lia)]
    exact List.take_of_length_le (by simp; exact Nat.min_le_left i vs.length)
  have h3 : List.drop (i + D.length + E.length) (vs.take i ++ D ++ vs.drop (i + D.length)) = vs.drop (i + (D ++ E).length) := by
    rw [List.drop_append]
    have e1 : (vs.take i ++ D).length = i + D.length := by simp; lia
    rw [e1, List.drop_of_length_le (by rw [e1]; exact Nat.le_add_right (i + D.length) E.length), List.nil_append, List.drop_drop, List.length_append]
    congr 1
    rw [Nat.add_sub_cancel_left, Nat.add_assoc]
  rw [h2, h3]
  simp
theorem and_high (x s : Nat) : x &&& (x / 2 ^ s * 2 ^ s) = x / 2 ^ s * 2 ^ s := by
  refine Nat.eq_of_testBit_eq fun i => ?_
  rw [Nat.testBit_and, ← Nat.shiftRight_eq_div_pow, ← Nat.shiftLeft_eq, Nat.testBit_shiftLeft, Nat.testBit_shiftRight]
  by_cases h : s ≤ i
  · have : s + (i - s) = i := by exact Nat.add_sub_of_le h
    simp [h, this]
  · simp [h]
theorem xor_low (x s : Nat) : Builtin.bitXor (x : Int) ((x / 2 ^ s * 2 ^ s : Nat) : Int) = ((x % 2 ^ s : Nat) : Int) := by
  rw [bitXor_and]
  have h : Builtin.bitAnd (x : Int) ((x / 2 ^ s * 2 ^ s : Nat) : Int) = ((x / 2 ^ s * 2 ^ s : Nat) : Int) := by
    unfold Builtin.bitAnd
    have h1 : decide (0 ≤ (x : Int)) = true := by simp
    have h2 : decide (0 ≤ ((x / 2 ^ s * 2 ^ s : Nat) : Int)) = true := decide_eq_true (Int.natCast_nonneg _)
    rw [h1, h2]
    show (((x : Int).toNat &&& ((x / 2 ^ s * 2 ^ s : Nat) : Int).toNat : Nat) : Int) = _
    rw [Int.toNat_natCast, Int.toNat_natCast, and_high]
  rw [h]
  have := Nat.div_add_mod x (2 ^ s)
  have h3 : 2 ^ s * (x / 2 ^ s) = x / 2 ^ s * 2 ^ s := Nat.mul_comm ..
  lia
theorem shr_nat (x s : Nat) : (x : Int).fdiv (2 ^ (s : Int).toNat) = ((x / 2 ^ s : Nat) : Int) := by
  rw [Int.toNat_natCast, Int.fdiv_eq_ediv_of_nonneg _ (by exact_mod_cast Nat.zero_le _)]
  norm_cast
theorem shl_nat (x s : Nat) : (x : Int) * 2 ^ (s : Int).toNat = ((x * 2 ^ s : Nat) : Int) := by
  rw [Int.toNat_natCast]; norm_cast
theorem Upd.of_split {a : Addr} {x y : AO} : ∀ {pre post : AH}, Upd a x y (pre ++ (a, x) :: post) (pre ++ (a, y) :: post)
  | [], _ => .head
  | _ :: pre, _ => .tail (Upd.of_split (pre := pre))

theorem bits_lt (x : Nat) : x < 2 ^ Builtin.Int.intBits (x : Int) := by
  unfold Builtin.Int.intBits
  split
  · rename_i h
    have : x = 0 := by simpa using h
    subst this; decide
  · exact Nat.lt_log2_self
theorem bits_pos {x : Nat} (h : x ≠ 0) : 0 < Builtin.Int.intBits (x : Int) := by
  unfold Builtin.Int.intBits
  rw [if_neg (by simpa using h)]; lia
noncomputable def ndig (x n : Nat) : Nat := (Builtin.Int.intBits (x : Int) + n - 1) / n
theorem lt_ndig {x n : Nat} (hn : 1 ≤ n) : x < 2 ^ (n * ndig x n) := by
  refine Nat.lt_of_lt_of_le (bits_lt x) (Nat.pow_le_pow_right (by decide) ?_)
  unfold ndig
  have h1 := Nat.div_add_mod (Builtin.Int.intBits (x : Int) + n - 1) n
  have h2 := Nat.mod_lt (Builtin.Int.intBits (x : Int) + n - 1) (show 0 < n by assumption)
  omega
theorem ndig_pos {x n : Nat} (hn : 1 ≤ n) (h : x ≠ 0) : 0 < ndig x n := by
  unfold ndig
  exact Nat.div_pos (by rw [Nat.add_comm]; exact Nat.le_sub_of_add_le (Nat.add_le_add_left (bits_pos h) n)) hn
theorem ndig_le {x n k : Nat} (hn : 1 ≤ n) (h : x < 2 ^ (n * k)) : ndig x n ≤ k := by
  unfold ndig
  have h1 : Builtin.Int.intBits (x : Int) ≤ n * k := intBits_le (by rw [Int.natAbs_natCast]; exact h)
  have h2 : Builtin.Int.intBits (x : Int) + n - 1 ≤ n * k + (n - 1) := by rw [Nat.add_sub_assoc hn]; exact Nat.add_le_add_right h1 _
  refine Nat.le_trans (Nat.div_le_div_right h2) ?_
  rw [Nat.mul_add_div (by assumption)]
  have : (n - 1) / n = 0 := Nat.div_eq_of_lt (by exact Nat.sub_one_lt_of_lt hn)
  lia
theorem fdiv_nat (a b : Nat) : (a : Int).fdiv (b : Int) = ((a / b : Nat) : Int) := by rw [Int.fdiv_eq_ediv_of_nonneg _ (by exact Int.natCast_nonneg b)]; rfl
theorem fmod_nat (a b : Nat) : (a : Int).fmod (b : Int) = ((a % b : Nat) : Int) := by rw [Int.fmod_eq_emod_of_nonneg _ (by exact Int.natCast_nonneg b)]; rfl

section
variable {C : Cfg} {gl : List (Str × V)} {A : Around} {env : Env} {c P : Addr} {qual name : Str} {params : Arguments} {scope : Scope} {clos : List (Str × Addr)} {pos : Pos} {H H' : AH} {Q : V → AH → Prop} {QF : Fl → AH → Prop}
theorem wp1_DefF {b : List Stmt} (F : FnA) {q : Str} {cl : List (Str × Addr)} (G : C.Ok gl) (hcode : env.code = .ref c) (hC : CodeHd C.B c P) (hglob : env.globals = mainGlobals) (hP : (P, AO.tab q) ∈ H) (hcl : closureFor scope env = pure cl)
    (h : ∀ f, Op1 C A URel (storeName env name) (.ref f) (fun zz H₂ => QF .next H₂) ((f, .fn F) :: H)) (hq : qualnameIn env name name = q) (hFe : (⟨q, params, .stmts b, scope, cl⟩ : FnA) = F := by rfl)
    (hd : defaultsOf params env = ([], []) := by with_unfolding_all rfl) (ha : annTrees params none env = [] := by with_unfolding_all rfl) : WP1 C A env (.FunctionDef name params b [] none [] scope none name pos) QF H :=
  wp1_Def G hcode hC hglob hP hcl (fun f => hFe.symm ▸ h f) hq hd ha
theorem wp_LambdaF {e : Expr} (F : FnA) {q : Str} {cl : List (Str × Addr)} (G : C.Ok gl) (hcode : env.code = .ref c) (hC : CodeHd C.B c P) (hglob : env.globals = mainGlobals) (hP : (P, AO.tab q) ∈ H) (hcl : closureFor scope env = pure cl)
    (k : ∀ f, Q (.ref f) ((f, .fn F) :: H)) (hq : env.qual ++ "<lambda>" = q) (hFe : (⟨q, params, .expr e, scope, cl⟩ : FnA) = F := by rfl)
    (hd : defaultsOf params env = ([], []) := by with_unfolding_all rfl) : WP C A (VRel C.X) (eval (.Lambda params e scope pos) env) Q H :=
  wp_Lambda G hcode hC hglob hP hcl (fun f => hFe.symm ▸ k f) hq hd
theorem ndig_mul_le {x n : Nat} : n * ndig x n ≤ Builtin.Int.intBits (x : Int) + n - 1 := Nat.mul_div_le _ _
theorem qual_in {L fa : Addr} {F : FnA} {cd : Value} {cs : List (Str × Addr)} {k : NameKind} (hk : F.scope.names.lookup name = some k) (hne : k ≠ .globalExplicit) (hq : F.qual ++ ".<locals>." ++ name = qual) : qualnameIn (envF F L fa cd cs) name name = qual := by
  unfold qualnameIn
  have h1 : (envF F L fa cd cs).kindOf name = some k := hk
  rw [h1, if_neg (by simpa using hne)]
  exact hq

theorem wps_ret {A : Around} {rest : List Stmt} {v : V} (h : QF (.ret v) H) : Behind C A env rest QF (.ret v) H := h
theorem wps_cont {A : Around} {rest : List Stmt} (h : QF .cont H) : Behind C A env rest QF .cont H := h
theorem turn_next {P : AH → Prop} (h : P H) : TurnEnd P QF .next H := h
theorem turn_cont {P : AH → Prop} (h : P H) : TurnEnd P QF .cont H := h
theorem turn_ret {P : AH → Prop} {v : V} (h : QF (.ret v) H) : TurnEnd P QF (.ret v) H := h
theorem splice_all {α : Type} {k : Nat} {z : α} {D : List α} (h : D.length = k) : splice (List.replicate k z) 0 D = D := by
  unfold splice
  rw [Nat.zero_add, h, List.drop_of_length_le (by simp)]
  simp
end

noncomputable def d2i (n : Nat) : List Int → Int
  | [] => 0
  | d :: ds => d + 2 ^ n * d2i n ds
theorem d2i_append (n : Nat) : ∀ xs ys : List Int, d2i n (xs ++ ys) = d2i n xs + 2 ^ (n * xs.length) * d2i n ys
  | [], ys => by simp [d2i]
  | x :: xs, ys => by
    rw [List.cons_append, d2i, d2i_append n xs ys, d2i, List.length_cons, Nat.mul_add, Nat.mul_one, Int.pow_add, Int.mul_add, ← Int.mul_assoc, Int.mul_comm (2 ^ n) (2 ^ (n * xs.length))]
    exact Eq.symm (Int.add_assoc x (2 ^ n * Mine.Internal.d2i n xs) (2 ^ (n * xs.length) * 2 ^ n * Mine.Internal.d2i n ys))
theorem d2i_bound (n B : Nat) : ∀ ds : List Int, (∀ d ∈ ds, d.natAbs < 2 ^ B) → (d2i n ds).natAbs < 2 ^ (B + (n + 1) * ds.length)
  | [], _ => by simp [d2i]; exact Nat.two_pow_pos _
  | d :: ds, h => by
    have h1 := h d (.head _)
    have h2 := d2i_bound n B ds fun e he => h e (.tail _ he)
    rw [d2i, List.length_cons, Nat.mul_add, Nat.mul_one]
    have h3 : (2 ^ n * d2i n ds : Int).natAbs = 2 ^ n * (d2i n ds).natAbs := by rw [Int.natAbs_mul, Int.natAbs_pow]; rfl
    have h4 := Int.natAbs_add_le d (2 ^ n * d2i n ds)
    rw [h3] at h4
    have h5 : 2 ^ n * (d2i n ds).natAbs + 2 ^ n ≤ 2 ^ n * 2 ^ (B + (n + 1) * ds.length) := by
      have := Nat.mul_le_mul_left (2 ^ n) (show (d2i n ds).natAbs + 1 ≤ 2 ^ (B + (n + 1) * ds.length) from h2)
      rw [Nat.mul_add, Nat.mul_one] at this; exact this
    have h6 : 2 ^ (B + ((n + 1) * ds.length + (n + 1))) = 2 * (2 ^ n * 2 ^ (B + (n + 1) * ds.length)) := by
      rw [← Nat.pow_add, ← Nat.pow_succ']; congr 1; lia
    have h7 : 2 ^ B ≤ 2 ^ n * 2 ^ (B + (n + 1) * ds.length) := by
      rw [← Nat.pow_add]; exact Nat.pow_le_pow_right (by decide) (by lia)
    rw [h6, Nat.two_mul]
    exact Nat.lt_of_le_of_lt h4 (Nat.add_lt_add_of_lt_of_le (Nat.lt_of_lt_of_le h1 h7) (Nat.le_trans (Nat.le_add_right _ _) h5))
inductive VOk (pn : List Str) (xs : List (Option V)) : List Str → List (Option V) → Prop
  | rest {ln vs} (h : vs.all Option.isNone = true) : VOk pn xs ln vs
  | some {y ln u vs} (h : At pn xs y u) (r : VOk pn xs ln vs) : VOk pn xs (y :: ln) (Option.some u :: vs)
theorem VOk.get {pn : List Str} {xs : List (Option V)} {ln : List Str} {vs : List (Option V)} (h : VOk pn xs ln vs) : ∀ (k : Nat) x u, ln[k]? = Option.some x → vs[k]? = Option.some (Option.some u) → At pn xs x u := by
  induction h with
  | rest h =>
    intro k x u _ h2
    have := List.all_eq_true.mp h _ (List.mem_of_getElem? h2)
    simp at this
  | some ha _ ih =>
    intro k x u h1 h2
    cases k with
    | zero => simp at h1 h2; subst h1 h2; exact ha
    | succ k => exact ih k x u (by simpa using h1) (by simpa using h2)
theorem cells1 {cs : List (Str × Addr)} {x : Str} (h : cs.map (·.1) = [x]) : ∃ c, cs = [(x, c)] := by
  match cs, h with
  | [(_, c)], h => simp only [List.map_cons, List.map_nil, List.cons.injEq, and_true] at h; exact ⟨c, by rw [h]⟩
theorem cells_cons {cs : List (Str × Addr)} {x : Str} {r : List Str} (h : cs.map (·.1) = x :: r) : ∃ c cs', cs = (x, c) :: cs' ∧ cs'.map (·.1) = r := by
  match cs, h with
  | (_, c) :: cs', h => simp only [List.map_cons, List.cons.injEq] at h; exact ⟨c, cs', by rw [h.1], h.2⟩
theorem cells2 {cs : List (Str × Addr)} {x y : Str} (h : cs.map (·.1) = [x, y]) : ∃ c d, cs = [(x, c), (y, d)] := by
  obtain ⟨c, cs', rfl, h'⟩ := cells_cons h
  obtain ⟨d, rfl⟩ := cells1 h'
  exact ⟨c, d, rfl⟩
theorem cells3 {cs : List (Str × Addr)} {x y z : Str} (h : cs.map (·.1) = [x, y, z]) : ∃ c d e, cs = [(x, c), (y, d), (z, e)] := by
  obtain ⟨c, cs', rfl, h'⟩ := cells_cons h
  obtain ⟨d, e, rfl⟩ := cells2 h'
  exact ⟨c, d, e, rfl⟩
end
noncomputable section
inductive Hole (a : Addr) (x : AO) : AH → (AO → AH) → Prop
  | head {r} : Hole a x ((a, x) :: r) (fun y => (a, y) :: r)
  | tail {p r k} : Hole a x r k → Hole a x (p :: r) (fun y => p :: k y)
inductive Hole2 (a : Addr) (x : AO) (b : Addr) (y : AO) : AH → (AO → AO → AH) → Prop
  | fst {r k} : Hole b y r k → Hole2 a x b y ((a, x) :: r) (fun u v => (a, u) :: k v)
  | snd {r k} : Hole a x r k → Hole2 a x b y ((b, y) :: r) (fun u v => (b, v) :: k u)
  | tail {p r k} : Hole2 a x b y r k → Hole2 a x b y (p :: r) (fun u v => p :: k u v)
theorem Hole.eq {a x H K} (h : Hole a x H K) : H = K x := by
  induction h with
  | head => rfl
  | tail _ ih => rw [ih]
theorem Hole.upd {a x H K} (h : Hole a x H K) (u v : AO) : Upd a u v (K u) (K v) := by
  induction h with
  | head => exact .head
  | tail _ ih => exact .tail ih
theorem Hole.stay {a x H K} (h : Hole a x H K) (u : AO) {p : Addr × AO} (hp : p ∈ H) (hne : p ≠ (a, x)) : p ∈ K u := by
  induction h with
  | head => rcases List.mem_cons.mp hp with e | hp; exact absurd e hne; exact .tail _ hp
  | tail _ ih => rcases List.mem_cons.mp hp with rfl | hp; exact .head _; exact .tail _ (ih hp)
theorem Hole2.eq {a x b y H K} (h : Hole2 a x b y H K) : H = K x y := by
  induction h with
  | fst h => rw [h.eq]
  | snd h => rw [h.eq]
  | tail _ ih => rw [ih]
theorem Hole2.upd1 {a x b y H K} (h : Hole2 a x b y H K) (u u' v : AO) : Upd a u u' (K u v) (K u' v) := by
  induction h with
  | fst h => exact .head
  | snd h => exact .tail (h.upd u u')
  | tail _ ih => exact .tail ih
theorem Hole2.upd2 {a x b y H K} (h : Hole2 a x b y H K) (u v v' : AO) : Upd b v v' (K u v) (K u v') := by
  induction h with
  | fst h => exact .tail (h.upd v v')
  | snd h => exact .head
  | tail _ ih => exact .tail ih
theorem Hole2.stay {a x b y H K} (h : Hole2 a x b y H K) (u v : AO) {p : Addr × AO} (hp : p ∈ H) (h1 : p ≠ (a, x)) (h2 : p ≠ (b, y)) : p ∈ K u v := by
  induction h with
  | fst h => rcases List.mem_cons.mp hp with e | hp; exact absurd e h1; exact .tail _ (h.stay v hp h2)
  | snd h => rcases List.mem_cons.mp hp with e | hp; exact absurd e h2; exact .tail _ (h.stay u hp h1)
  | tail _ ih => rcases List.mem_cons.mp hp with rfl | hp; exact .head _; exact .tail _ (ih hp)
theorem Hole2.mem1 {a x b y H K} (h : Hole2 a x b y H K) (u v : AO) : (a, u) ∈ K u v := (h.upd1 u u v).mem
theorem Hole2.mem2 {a x b y H K} (h : Hole2 a x b y H K) (u v : AO) : (b, v) ∈ K u v := (h.upd2 u v v).mem
theorem Hole.re {a x H K} (h : Hole a x H K) (u : AO) : Hole a u (K u) K := by
  induction h with
  | head => exact .head
  | tail _ ih => exact .tail ih
theorem Hole2.re {a x b y H K} (h : Hole2 a x b y H K) (u v : AO) : Hole2 a u b v (K u v) K := by
  induction h with
  | fst h => exact .fst (h.re v)
  | snd h => exact .snd (h.re u)
  | tail _ ih => exact .tail ih
end
noncomputable section
-- the reader's own meaning, over signs
noncomputable def isW (c : Nat) : Bool := c == 10 || c == 9 || c == 13 || c == 32
noncomputable def lnN (n : Int) (c : Nat) : Int := if c = 10 then n + 1 else n
noncomputable def qGo : List Nat → List Nat → Int → List Nat × List Nat × Int
  | tok, [], n => (tok, [], n)
  | tok, c :: cs, n => if c = 34 then (tok, cs, n) else if c = 92 then (match cs with | [] => (tok, [], n) | d :: ds => qGo (tok ++ [d]) ds (lnN n d)) else qGo (tok ++ [c]) cs (lnN n c)
noncomputable def bGo : List Nat → List Nat → Int → List Nat × List Nat × Int
  | tok, [], n => (tok, [], n)
  | tok, c :: cs, n => if isW c then (tok, cs, lnN n c) else if c = 92 then (match cs with | [] => (tok, [], n) | d :: ds => bGo (tok ++ [d]) ds (lnN n d)) else bGo (tok ++ [c]) cs (lnN n c)
noncomputable def tGo : List Nat → Int → List Nat × List Nat × Int
  | [], n => ([], [], n)
  | c :: cs, n => if isW c then tGo cs (lnN n c) else if c = 34 then qGo [] cs n else if c = 92 then (match cs with | [] => ([], [], n) | d :: ds => bGo [d] ds (lnN n d)) else bGo [c] cs (lnN n c)
noncomputable abbrev mkS (l : List Nat) : Str := ⟨l.toArray⟩
theorem mkS_app (l m : List Nat) : mkS l ++ mkS m = mkS (l ++ m) := by
  show Str.mk _ = Str.mk _
  simp
theorem mkS_nil : ("" : Str) = mkS [] := by decide +kernel
theorem ws_in (c : Nat) : (!(Builtin.Str.occurrences ("\n\t\r " : Str) ⟨#[c]⟩ 0 ("\n\t\r " : Str).length 1).isEmpty) = isW c := by
  rw [StrLaws.found_one]
  have : ("\n\t\r " : Str).cps.toList = [10, 9, 13, 32] := by decide +kernel
  rw [this]
  unfold isW
  by_cases h1 : c = 10 <;> by_cases h2 : c = 9 <;> by_cases h3 : c = 13 <;> by_cases h4 : c = 32 <;> simp [h1, h2, h3, h4]
theorem tGo_ws {c : Nat} {cs : List Nat} {n : Int} (h : isW c = true) : tGo (c :: cs) n = tGo cs (lnN n c) := by rw [tGo.eq_def]; simp [h]
theorem tGo_q {cs : List Nat} {n : Int} : tGo (34 :: cs) n = qGo [] cs n := by rw [tGo.eq_def]; simp [isW]
theorem tGo_e0 {n : Int} : tGo [92] n = ([], [], n) := by rw [tGo.eq_def]; simp [isW]
theorem tGo_e {d : Nat} {ds : List Nat} {n : Int} : tGo (92 :: d :: ds) n = bGo [d] ds (lnN n d) := by rw [tGo.eq_def]; simp [isW]
theorem tGo_b {c : Nat} {cs : List Nat} {n : Int} (h : isW c = false) (h1 : c ≠ 34) (h2 : c ≠ 92) : tGo (c :: cs) n = bGo [c] cs (lnN n c) := by rw [tGo.eq_def]; simp [h, h1, h2]
theorem qGo_q {tok cs : List Nat} {n : Int} : qGo tok (34 :: cs) n = (tok, cs, n) := by rw [qGo.eq_def]; simp
theorem qGo_e0 {tok : List Nat} {n : Int} : qGo tok [92] n = (tok, [], n) := by rw [qGo.eq_def]; simp
theorem qGo_e {tok : List Nat} {d : Nat} {ds : List Nat} {n : Int} : qGo tok (92 :: d :: ds) n = qGo (tok ++ [d]) ds (lnN n d) := by rw [qGo.eq_def]; simp
theorem qGo_b {tok : List Nat} {c : Nat} {cs : List Nat} {n : Int} (h1 : c ≠ 34) (h2 : c ≠ 92) : qGo tok (c :: cs) n = qGo (tok ++ [c]) cs (lnN n c) := by rw [qGo.eq_def]; simp [h1, h2]
theorem bGo_w {tok : List Nat} {c : Nat} {cs : List Nat} {n : Int} (h : isW c = true) : bGo tok (c :: cs) n = (tok, cs, lnN n c) := by rw [bGo.eq_def]; simp [h]
theorem bGo_e0 {tok : List Nat} {n : Int} : bGo tok [92] n = (tok, [], n) := by rw [bGo.eq_def]; simp [isW]
theorem bGo_e {tok : List Nat} {d : Nat} {ds : List Nat} {n : Int} : bGo tok (92 :: d :: ds) n = bGo (tok ++ [d]) ds (lnN n d) := by rw [bGo.eq_def]; simp [isW]
theorem bGo_b {tok : List Nat} {c : Nat} {cs : List Nat} {n : Int} (h : isW c = false) (h2 : c ≠ 92) : bGo tok (c :: cs) n = bGo (tok ++ [c]) cs (lnN n c) := by rw [bGo.eq_def]; simp [h, h2]
theorem sg_is (c d : Nat) {x : Str} (h : x = ⟨#[d]⟩) : ((⟨#[c]⟩ : Str) == x) = decide (c = d) := by
  subst h
  by_cases e : c = d
  · subst e; simp
  · rw [decide_eq_false e]
    refine beq_eq_false_iff_ne.mpr fun h => e ?_
    have := congrArg (fun s : Str => s.cps.toList) h
    simpa using this
theorem q_sign : ("\"" : Str) = ⟨#[34]⟩ := by decide +kernel
theorem b_sign : ("\\" : Str) = ⟨#[92]⟩ := by decide +kernel
end
noncomputable section
theorem txt_join (sep : Str) (l : List Str) : Txt.join sep l = Str.join sep l := eq_of_beq (join_plain_closes sep l)
theorem join_mkS : ∀ ws : List (List Nat), Str.join (mkS []) (ws.map mkS) = mkS ws.flatten
  | [] => rfl
  | [w] => by simp [Str.join]
  | w :: x :: ws => by
    have ih := join_mkS (x :: ws)
    simp only [List.map_cons] at ih ⊢
    rw [Str.join, ih, mkS_app, mkS_app]
    · simp
    · simp
theorem tjoin_mkS (ws : List (List Nat)) : Txt.join "" (ws.map mkS) = mkS ws.flatten := by rw [txt_join, mkS_nil, join_mkS]
theorem mkS_len (l : List Nat) : (mkS l).length = l.length := by simp [Str.length]
theorem sum_len (ws : List (List Nat)) : ((ws.map mkS).map (·.length)).sum = ws.flatten.length := by
  induction ws with
  | nil => rfl
  | cons w ws ih => simp only [List.map_cons, List.sum_cons, ih, List.flatten_cons, List.length_append, mkS_len]
theorem flat_one (l : List Nat) : (l.map fun c => [c]).flatten = l := by
  induction l with
  | nil => rfl
  | cons c l ih => simp [ih]
theorem mkS_inj {l m : List Nat} (h : mkS l = mkS m) : l = m := by
  have := congrArg (fun s : Str => s.cps.toList) h
  simpa using this
theorem mkS_eq (l m : List Nat) : (mkS l == mkS m) = decide (l = m) := by
  by_cases h : l = m
  · subst h; simp
  · rw [decide_eq_false h]; exact beq_eq_false_iff_ne.mpr fun e => h (mkS_inj e)
end
noncomputable section
-- data for comparisons
noncomputable abbrev strVs (ws : List (List Nat)) : List V := ws.map fun l => V.str (mkS l)
noncomputable abbrev intVs (l : List Int) : List V := l.map V.int
noncomputable abbrev dS (l : List Nat) : PyData := .str (mkS l)
noncomputable abbrev dSs (ws : List (List Nat)) : PyData := .list (ws.map dS)
noncomputable abbrev dIs (l : List Int) : PyData := .list (l.map PyData.int)
section
variable {a : Addr} {H : AH}
theorem ds_nil : DsRel H [] [] := by simp only [DsRel]
theorem ds_cons {d : PyData} {v : V} {ds : List PyData} {vs : List V} (h : DRel H d v) (r : DsRel H ds vs) : DsRel H (d :: ds) (v :: vs) := by simp only [DsRel]; exact ⟨v, vs, rfl, h, r⟩
theorem dr_int {i : Int} : DRel H (.int i) (.int i) := by simp only [DRel]
theorem dr_str {l : List Nat} : DRel H (dS l) (.str (mkS l)) := by simp only [DRel]
theorem dr_list {ds : List PyData} {vs : List V} (h : (a, AO.list vs) ∈ H) (r : DsRel H ds vs) : DRel H (.list ds) (.ref a) := by simp only [DRel]; exact ⟨a, vs, rfl, h, r⟩
theorem ds_strs : ∀ ws : List (List Nat), DsRel H (ws.map dS) (strVs ws)
  | [] => ds_nil
  | w :: ws => ds_cons dr_str (ds_strs ws)
theorem ds_ints : ∀ l : List Int, DsRel H (l.map PyData.int) (intVs l)
  | [] => ds_nil
  | w :: ws => ds_cons dr_int (ds_ints ws)
theorem dr_strs {ws : List (List Nat)} (h : (a, AO.list (strVs ws)) ∈ H) : DRel H (dSs ws) (.ref a) := dr_list h (ds_strs ws)
theorem dr_ints {l : List Int} (h : (a, AO.list (intVs l)) ∈ H) : DRel H (dIs l) (.ref a) := dr_list h (ds_ints l)
end
noncomputable def DOk (n : Nat) (d : PyData) : Prop := d.canLay0 = true ∧ d.depth ≤ n
theorem dok_int {i : Int} {n : Nat} : DOk n (.int i) := ⟨rfl, Nat.zero_le _⟩
theorem dok_str {l : List Nat} {n : Nat} (h : ∀ c ∈ l, c < 0x110000) : DOk n (dS l) := ⟨by
  show (mkS l).cps.all _ = true
  simpa using h, Nat.zero_le _⟩
theorem dok_all {n : Nat} : ∀ {ds : List PyData}, (∀ d ∈ ds, DOk n d) → PyData.canLayAll0 ds = true ∧ PyData.depthAll ds ≤ n
  | [], _ => ⟨rfl, Nat.zero_le _⟩
  | d :: ds, h => by
    obtain ⟨h1, h2⟩ := h d (.head _)
    obtain ⟨h3, h4⟩ := dok_all fun e he => h e (.tail _ he)
    refine ⟨by simp only [PyData.canLayAll0, h1, h3, Bool.and_self], by simp only [PyData.depthAll]; exact Nat.max_le_of_le_of_le h2 h4⟩
theorem dok_list {n : Nat} {ds : List PyData} (h : ∀ d ∈ ds, DOk n d) : DOk (n + 1) (.list ds) := by
  obtain ⟨h1, h2⟩ := dok_all h
  exact ⟨by simpa only [PyData.canLay0] using h1, by simp only [PyData.depth]; exact Nat.add_le_add_right h2 1⟩
theorem dok_strs {n : Nat} {ws : List (List Nat)} (h : ∀ w ∈ ws, ∀ c ∈ w, c < 0x110000) : DOk (n + 1) (dSs ws) := dok_list fun d hd => by
  obtain ⟨w, hw, rfl⟩ := List.mem_map.mp hd
  exact dok_str (h w hw)
theorem dok_ints {n : Nat} {l : List Int} : DOk (n + 1) (dIs l) := dok_list fun d hd => by
  obtain ⟨w, hw, rfl⟩ := List.mem_map.mp hd
  exact dok_int
theorem DOk.shaped {n : Nat} {d : PyData} (h : DOk n d) (hn : n ≤ 64) : SeqAt.shaped d = true := by
  unfold SeqAt.shaped
  rw [h.1, decide_eq_true (Nat.le_trans h.2 hn)]; rfl
theorem eqv_str {l m : List Nat} : PyData.eqv (dS l) (dS m) = decide (l = m) := by
  simp only [PyData.eqv]; exact mkS_eq l m
theorem eqv_int {i j : Int} : PyData.eqv (.int i) (.int j) = decide (i = j) := by
  simp only [PyData.eqv]; rfl
theorem eqv_cons {x y : PyData} {xs ys : List PyData} : PyData.eqv (.list (x :: xs)) (.list (y :: ys)) = (PyData.eqv x y && PyData.eqv (.list xs) (.list ys)) := by simp only [PyData.eqv, PyData.eqvAll]
theorem eqv_nil : PyData.eqv (.list []) (.list []) = true := by simp only [PyData.eqv, PyData.eqvAll]
theorem eqv_cn {x : PyData} {xs : List PyData} : PyData.eqv (.list (x :: xs)) (.list []) = false := by simp only [PyData.eqv, PyData.eqvAll]
theorem eqv_nc {x : PyData} {xs : List PyData} : PyData.eqv (.list []) (.list (x :: xs)) = false := by simp only [PyData.eqv, PyData.eqvAll]
theorem eqv_strs : ∀ ws us : List (List Nat), PyData.eqv (dSs ws) (dSs us) = decide (ws = us)
  | [], [] => by rw [decide_eq_true rfl]; exact eqv_nil
  | [], u :: us => by rw [decide_eq_false (by simp)]; exact eqv_nc
  | w :: ws, [] => by rw [decide_eq_false (by simp)]; exact eqv_cn
  | w :: ws, u :: us => by
    show PyData.eqv (.list (dS w :: ws.map dS)) (.list (dS u :: us.map dS)) = _
    rw [eqv_cons, eqv_str, show PyData.eqv (.list (ws.map dS)) (.list (us.map dS)) = decide (ws = us) from eqv_strs ws us]
    by_cases h1 : w = u <;> by_cases h2 : ws = us <;> simp [h1, h2]
theorem eqv_ints : ∀ ws us : List Int, PyData.eqv (dIs ws) (dIs us) = decide (ws = us)
  | [], [] => by rw [decide_eq_true rfl]; exact eqv_nil
  | [], u :: us => by rw [decide_eq_false (by simp)]; exact eqv_nc
  | w :: ws, [] => by rw [decide_eq_false (by simp)]; exact eqv_cn
  | w :: ws, u :: us => by
    show PyData.eqv (.list (.int w :: ws.map PyData.int)) (.list (.int u :: us.map PyData.int)) = _
    rw [eqv_cons, eqv_int, show PyData.eqv (.list (ws.map PyData.int)) (.list (us.map PyData.int)) = decide (ws = us) from eqv_ints ws us]
    by_cases h1 : w = u <;> by_cases h2 : ws = us <;> simp [h1, h2]
theorem Room.line {A : Around} {n : Nat} (r : Room A n) : A.units + 64 < cLine := by have := r.units; unfold cLine; lia
theorem rl_up {n : Int} : rangeLen 0 n 1 = n.toNat := by
  unfold rangeLen Builtin.Range.rangeSize
  by_cases h : (0 : Int) < n
  · simp only [h, if_true, show (1 : Int) > 0 by decide]; rw [Int.ediv_one]; congr 1; lia
  · simp only [h, if_false, show (1 : Int) > 0 by decide, if_true]; lia
theorem range_some {n : Int} {i : Nat} {H : AH} (h : (i : Int) < n) : rangeItem 0 n 1 i H (some (.int i)) := by
  show _ = _
  rw [rl_up, if_pos (by exact Int.lt_toNat.mpr h)]; show some (V.int _) = some (V.int _); congr 2; lia
theorem range_none {n : Int} {i : Nat} {H : AH} (h : n ≤ (i : Int)) : rangeItem 0 n 1 i H none := by
  show _ = _
  rw [rl_up, if_neg (by lia)]
end
noncomputable section
-- slices
theorem pick_run {α : Type} (l : List α) (a k : Nat) : ((List.range k).map (a + ·)).filterMap (l[·]?) = (l.drop a).take k := by
  have h := PySem.pick_run l.toArray a k
  simpa only [List.getElem?_toArray] using h
theorem pySlice_plain {α : Type} (l : List α) (lo hi : Option Int) : pySlice l lo hi none = (l.drop (lo.elim 0 (clipAt l.length))).take (hi.elim l.length (clipAt l.length) - lo.elim 0 (clipAt l.length)) := by
  unfold pySlice
  rw [sliceBounds_plain]
  dsimp only
  rw [sliceRange_one, pick_run]
theorem pySlice_upto {α : Type} (l : List α) (p : Nat) : pySlice l none (some p) none = l.take p := by
  rw [pySlice_plain]
  show l.take (clipAt l.length p) = _
  rw [clipAt_nat, ← List.take_eq_take_min]
theorem pySlice_drop {α : Type} (l : List α) (p : Nat) : pySlice l (some p) none none = l.drop p := by
  rw [pySlice_plain]
  show (l.drop (clipAt l.length p)).take (l.length - clipAt l.length p) = _
  rw [clipAt_nat]
  rcases Nat.le_total p l.length with h | h
  · rw [Nat.min_eq_left h]; exact List.take_of_length_le (by rw [List.length_drop]; exact Nat.le_refl _)
  · rw [Nat.min_eq_right h, List.drop_of_length_le h, List.drop_length, List.take_nil]
theorem pySlice_mid {α : Type} (l : List α) (p q : Nat) : pySlice l (some p) (some q) none = (l.take q).drop p := by
  rw [pySlice_plain]
  show (l.drop (clipAt l.length p)).take (clipAt l.length q - clipAt l.length p) = _
  rw [clipAt_nat, clipAt_nat, ← List.drop_take, ← List.take_eq_take_min]
  by_cases hp : p ≤ l.length
  · rw [Nat.min_eq_left hp]
  · have hp := Nat.le_of_not_le hp
    rw [Nat.min_eq_right hp, List.drop_of_length_le (List.length_take_le' _ _), List.drop_of_length_le (Nat.le_trans (List.length_take_le' _ _) hp)]
theorem pySlice_rev {α : Type} (l : List α) : pySlice l none none (some (-1)) = l.reverse := by
  show (sliceRange ((l.length : Int) - 1) (-1) (-1)).filterMap (l[·]?) = _
  have e := List.reverse_range' (s := 0) (n := l.length)
  rw [Nat.zero_add, ← List.range_eq_range'] at e
  rw [krv_sliceRange, ← e, List.filterMap_reverse]
  have h := pick_run l 0 l.length
  rw [List.drop_zero, List.take_length] at h
  simpa using h
theorem pySlice_init {α : Type} (l : List α) : pySlice l none (some (-1)) none = l.dropLast := by
  rw [pySlice_plain]
  show l.take (clipAt l.length (-((1 : Nat) : Int))) = _
  rw [clipAt_neg _ _ (by decide), List.dropLast_eq_take]
theorem pySlice_init2 {α : Type} (l : List α) (x y : α) : pySlice (l ++ [x, y]) none (some (-2)) none = l := by
  rw [pySlice_plain]
  show (l ++ [x, y]).take (clipAt (l ++ [x, y]).length (-((2 : Nat) : Int))) = _
  rw [clipAt_neg _ _ (by decide), List.length_append]
  exact List.take_left' rfl

section
variable {C : Cfg} {gl : List (Str × V)} {A : Around} {env : Env} {pos tpos : Pos} {L : Addr} {ln gn : List Str} {cn : List (Str × Addr)} {H H' : AH} {Q : V → AH → Prop} {QF : Fl → AH → Prop} {QU : Unit → AH → Prop}
theorem VsRel.rev {X : List Addr} {h : Heap} : ∀ {us : List V} {vs : List Value}, VsRel X h us vs → VsRel X h us.reverse vs.reverse
  | [], vs, r => by simp only [VsRel] at r; subst r; exact VsRel.nil
  | u :: us, vs, r => by
    simp only [VsRel] at r
    refine E23 r fun v l e q q' => ?_
    subst e
    rw [List.reverse_cons, List.reverse_cons]
    exact (VsRel.rev q').append (.cons q .nil)
theorem wp1_Assign_swapE {elts : List Expr} {k : Nat} {value : Expr} {names : List Str} (hA : A.handled = none)
    (hw : swappedStores [.Tuple elts k tpos] value env = pure (some names))
    (h : WP C A (VRel C.X) (eval value env) (fun x H₁ => ∃ vs, x = .tup vs ∧ names.length = vs.length ∧ WPAs C A (names.reverse.map fun n => bindName env n) vs.reverse (fun zz H₂ => QF .next H₂) H₁) H)
    (hs : swapsWithSole [.Tuple elts k tpos] value pos.line env = pure false := by with_unfolding_all rfl) :
    WP1 C A env (.Assign [.Tuple elts k tpos] value pos) QF H := fun s R => by
  refine Assign_Tuple_swapped (names := names) (wpAny_mono (h s R) (fun v s₁ p => Post.el p fun x H₁ q rv R₁ k => E13 q fun vs hx hn q' => ?_) fun zz zz x => x) hs hw
  subst hx
  simp only [VRel] at rv
  refine E24 rv fun a items ev hX ht rvs => ?_
  subst ev
  have hl := rvs.length
  have hsz : names.length = items.size := by rw [hn, ← hl, Array.length_toList]
  rw [hsz]
  refine wpAny_unpackItems_tuple hA ht fun h' he => ?_
  have ext : ∀ b o, s₁.heap.get? b = some o → h'.get? b = some o := fun b o e => he b o (Nat.ne_of_lt (Heap.lt_size e)) e
  refine wpAny_mono (q' _ { s₁ with heap := h' } (rvs.fz (fz_of_ext ext)).rev (R₁.ext (t := s₁.toks) ext)) (fun zz zz p148 => Post.el p148 fun zz H₂ q₂ zz R₂ k₂ => ⟨.next, H₂, q₂, rfl, R₂, (k.trans (kept_of_ext (t := s₁.toks) ext)).trans k₂⟩) fun zz zz x => x
theorem wp1_swap2 {a b : Str} {pa pb p p' spos : Pos} {k k' : Nat} {x y : Expr} (FE : FEnv env L ln cn gn) (hA : A.handled = none) (ha : a ∈ ln) (hb : b ∈ ln)
    (h : WP C A (VRel C.X) (eval x env) (fun u H₁ => WP C A (VRel C.X) (eval y env) (fun v H₂ => Op1 C A URel (storeName env b) v (fun zz H₃ => Op1 C A URel (storeName env a) u (fun zz H₄ => QF .next H₄) H₃) H₂) H₁) H)
    (hab : (a == b) = false := by kernel_rfl) (h1 : (pb.line == pa.line) = true := by kernel_rfl) (hx : notStar x = true := by rfl) (hy : notStar y = true := by rfl)
    (hf : ([x, y].all (foldedForSure 8)) = false := by kernel_rfl) (hc : ([x, y].all (constantsAlone 8)) = false := by kernel_rfl)
    (he : starEach [x, y] env = (false, eval x env) :: starEach [y] env := by with_unfolding_all rfl) (he2 : starEach [y] env = (false, eval y env) :: starEach [] env := by with_unfolding_all rfl)
    (hs : swapsWithSole [.Tuple [.Name a pa, .Name b pb] k p] (.Tuple [x, y] k' p') spos.line env = pure false := by with_unfolding_all rfl) :
    WP1 C A env (.Assign [.Tuple [.Name a pa, .Name b pb] k p] (.Tuple [x, y] k' p') spos) QF H := by
  refine wp1_Assign_swapE hA (swap2 FE ha hb hab h1 hx hy hf hc) (wp_Tuple (wpl_cons (fun s R => wpAny_mono (h s R) (fun zz zz p149 => Post.el p149 fun u H₁ q ru R₁ k₁ => ⟨u, H₁, wpl_cons (fun s R => wpAny_mono (q s R) (fun zz zz p150 => Post.el p150 fun v H₂ q₂ rv R₂ k₂ => ⟨v, H₂, wpl_nil (fewOf ⟨_, rfl, rfl, ?_⟩), rv, R₂, k₂⟩) fun zz zz e => e) he2, ru, R₁, k₁⟩) fun zz zz e => e) he)) hs
  exact wpas_cons (op_bind (fun w s rw R => wpAny_mono (q₂ w s rw R) (fun zz zz p151 => Post.el p151 fun t H₃ q₃ rt R₃ k₃ => ⟨t, H₃, wpas_cons (op_bind (fun w s rw R => wpAny_mono (q₃ w s rw R) (fun zz zz p152 => Post.el p152 fun t H₄ q₄ rt R₄ k₄ => ⟨t, H₄, wpas_nil q₄, rt, R₄, k₄⟩) fun zz zz e => e)), rt, R₃, k₃⟩) fun zz zz e => e))
theorem filt_lt {α β : Type} {f : α → Option β} {l : List α} {x : α} (hx : x ∈ l) (h : f x = none) : (l.filterMap f).length < l.length := by
  induction l with
  | nil => cases hx
  | cons y l ih =>
    rcases List.mem_cons.mp hx with rfl | hx
    · rw [List.filterMap_cons, h]; exact Nat.lt_succ_of_le (List.length_filterMap_le _ _)
    · have := ih hx
      rw [List.filterMap_cons]
      cases f y with
      | none => show (l.filterMap f).length < l.length + 1; exact Nat.lt_add_right 1 (ih hx)
      | some z => show (l.filterMap f).length + 1 < l.length + 1; exact Nat.add_lt_add_right (ih hx) 1
theorem noswap {a : Str} {c : Addr} {pa p p' : Pos} {k k' : Nat} {ts vs : List Expr} (FE : FEnv env L ln cn gn) (hm : (a, c) ∈ cn) (ht : Expr.Name a pa ∈ ts) :
    swappedStores [.Tuple ts k p] (.Tuple vs k' p') env = pure none := by
  have e1 : (env.kindOf a == some .local) = false := by
    rcases (FE.hc _ hm).1 with h | h <;> rw [h] <;> rfl
  unfold swappedStores
  dsimp only
  split
  · rfl
  split
  · rfl
  generalize hL : List.filterMap _ ts = l
  have : l.length < ts.length := by rw [← hL]; exact filt_lt ht (by simp [e1])
  rw [if_pos (by simp; left; exact Nat.ne_of_lt this)]
theorem Op1.sub {α β : Type} {T : Heap → β → α → Prop} {f : Value → Sem α} {x : V} {Q : β → AH → Prop} (y : Sub H' H) (h : Op1 C A T f x Q H') : Op1 C A T f x Q H := fun v s rv R =>
  wpAny_mono (h v s rv (R.sub y)) (fun zz zz p153 => Post.el p153 fun u H₁ q r R' k => ⟨u, H₁, q, r, R', fun b o n e => k b o (fun h => n (y.kmem h)) e⟩) fun zz zz e => e
theorem wp1_mid {st : Stmt} {rest : List Stmt} (I : AH → Prop) (h : WP1 C A env st (fun f H₁ => f = .next ∧ I H₁) H) (k : ∀ H₁, I H₁ → WPS C A env rest QF H₁) : WP1 C A env st (Behind C A env rest QF) H :=
  fun s R => wpAny_mono (h s R) (fun zz zz p155 => Post.el p155 fun x H₁ p156 rx R₁ kp => p156.elim fun hx q => ⟨x, H₁, by subst hx; exact k H₁ q, rx, R₁, kp⟩) fun zz zz e => e
end
end
noncomputable section
section
variable {C : Cfg} {A : Around} {α β : Type} {T : Heap → β → α → Prop} {t : Sem α} {Q : β → AH → Prop} {H : AH}
theorem WP.pin (v : β) (h : WP C A T t (fun x H₁ => x = v ∧ Sub H H₁) H) (k : Q v H) : WP C A T t Q H := fun s R =>
  wpAny_mono (h s R) (fun zz zz p157 => Post.el p157 fun x H₁ p158 r R₁ kp => p158.elim fun hx y => ⟨x, H, by subst hx; exact k, r, R₁.sub y, kp.sub y⟩) fun zz zz e => e
end
end
noncomputable section
section
variable {C : Cfg} {gl : List (Str × V)} {A : Around} {H H' : AH} {Q : V → AH → Prop}
theorem gs_base {l : Addr} {its : Array Value} {ns : List Int} {lo hi st : Option Int} (hl : C.B.IsList l its) (hi' : IntsAre its.toList ns) (h0 : st ≠ some 0) (hz : ns.length ≤ 100000) (q : ∀ a, Q (.ref a) ((a, .list (pySlice (intVs ns) lo hi st)) :: H)) : GS C A (.ref l) lo hi st Q H := fun o sl vl vu vst s ro hs p1 p2 p3 R => by
  simp only [VRel] at ro; subst ro
  have pl : s.heap.IsList l its := let ⟨o, e, r⟩ := hl; ⟨o, R.keep _ _ e, r⟩
  have rvs : VsRel C.X s.heap (intVs ns) its.toList := by
    have : ∀ (vs : List Value) (ns : List Int), IntsAre vs ns → VsRel C.X s.heap (intVs ns) vs := by
      intro vs ns h
      induction h with
      | nil => exact VsRel.nil
      | cons _ _ _ ih => exact VsRel.cons ⟨_, rfl⟩ ih
    exact this _ _ hi'
  have hlen := rvs.length
  refine ⟨_, _, slot_list_getitem.lookup, pl.typeIs, wpAny_getItem_list_slice pl hs p1 p2 p3 h0 ?_ (by rw [← Array.length_toList, hlen, List.length_map, sizeLine_eq]; lia)⟩
  have ext : ∀ b o, s.heap.get? b = some o → (s.heap.push { cls := .type "list", data := .seq (slicePick its lo hi st) }).get? b = some o := fun b o e => Heap.get?_push_of_some _ e
  refine ⟨_, _, q _, rfl, R.add (t := s.toks) ext (Nat.le_refl _) ⟨_, ⟨0, Heap.get?_push_size _ rfl⟩, ?_⟩, kept_add (t := s.toks) ext (Nat.le_refl _)⟩
  have := (filterMap_rel (rvs.fz (fz_of_ext ext)) (sliceRange (sliceBounds lo hi st (intVs ns).length).1 (sliceBounds lo hi st (intVs ns).length).2.1 (sliceBounds lo hi st (intVs ns).length).2.2))
  have e : (slicePick its lo hi st).toList = (sliceRange (sliceBounds lo hi st (intVs ns).length).1 (sliceBounds lo hi st (intVs ns).length).2.1 (sliceBounds lo hi st (intVs ns).length).2.2).filterMap (its.toList[·]?) := by
    unfold slicePick
    rw [← hlen]; simp
  rw [e]
  exact this
end
-- counting a sign
open Builtin Builtin.Str StrLaws in
theorem occ_count (x : Str) (c : Nat) (limit : Nat) (hlim : x.length < limit) : ∀ (k i : Nat) (found : Array Nat), i + k = x.length + 1 → ∀ free, free ≤ i → found.size ≤ i →
    (forIn (List.range' i k) (found, free) (occBody x ⟨#[c]⟩ x.length limit)).run.fst.size = found.size + (x.cps.toList.drop i).count c
  | 0, i, found, hk, free, hf, hs => by
    have : x.cps.toList.drop i = [] := List.drop_of_length_le (by show x.cps.toList.length ≤ i; rw [Array.length_toList]; show x.length ≤ i; exact Nat.le.intro (_root_.id (Eq.symm hk)))
    rw [this]; rfl
  | k + 1, i, found, hk, free, hf, hs => by
    rw [List.range'_succ, List.forIn_cons]
    have hone := subAt_one x c i
    by_cases h : x.cps.toList[i]? = some c
    · have h2 := hone.mpr h
      have hi : i < x.cps.toList.length := (List.getElem?_eq_some_iff.mp h).1
      have hb : occBody x ⟨#[c]⟩ x.length limit i (found, free) = pure (ForInStep.yield (found.push i, i + 1)) := by
        unfold occBody
        have hil : i < x.length := by rw [Array.length_toList] at hi; exact hi
        rw [if_pos ⟨⟨⟨by show found.size < limit; lia, hf⟩, h2.1⟩, h2.2⟩]
        rfl
      rw [hb]
      show (forIn (List.range' (i + 1) k) (found.push i, i + 1) (occBody x ⟨#[c]⟩ x.length limit)).run.fst.size = _
      rw [occ_count x c limit hlim k (i + 1) (found.push i) (by lia) (i + 1) (Nat.le_refl _) (by simp; omega), List.drop_eq_getElem_cons hi, Array.size_push]
      have e : x.cps.toList[i] = c := by rw [List.getElem?_eq_getElem hi] at h; exact Option.some.inj h
      rw [e, List.count_cons_self]; exact Nat.succ_add_eq_add_succ found.size (List.count c (List.drop (i + 1) x.cps.toList))
    · have hb : occBody x ⟨#[c]⟩ x.length limit i (found, free) = pure (ForInStep.yield (found, free)) := by
        unfold occBody
        rw [if_neg (fun hc => h (hone.mp ⟨hc.1.2, hc.2⟩))]
      rw [hb]
      show (forIn (List.range' (i + 1) k) (found, free) (occBody x ⟨#[c]⟩ x.length limit)).run.fst.size = _
      rw [occ_count x c limit hlim k (i + 1) found (by lia) free (by exact Nat.le_add_right_of_le hf) (by exact Nat.le_add_right_of_le hs)]
      by_cases hi : i < x.cps.toList.length
      · rw [List.drop_eq_getElem_cons hi, List.count_cons_of_ne]
        rw [List.getElem?_eq_getElem hi] at h
        exact fun e => h (by rw [e])
      · rw [List.drop_of_length_le (by exact Nat.le_of_not_ge hi), List.drop_of_length_le (by exact Nat.le_of_not_lt hi)]
theorem count_sign (l : List Nat) (c : Nat) : (Builtin.Str.occurrences (mkS l) ⟨#[c]⟩ 0 (mkS l).length ((mkS l).length + 1)).length = l.count c := by
  rw [StrLaws.occ_eq, Array.length_toList, Nat.sub_zero, occ_count (mkS l) c _ (Nat.lt_succ_self _) _ 0 #[] (by exact Nat.add_comm 0 ((Mine.Internal.mkS l).length + 1)) 0 (Nat.le_refl _) (Nat.zero_le _)]
  simp
end
noncomputable section
theorem str_slice (l : List Nat) (lo hi st : Option Int) : (Builtin.Str.strSliceIndices lo hi (st.getD 1) (mkS l).length).filterMap ((mkS l).cps[·]?) = pySlice l lo hi st := by
  unfold pySlice Builtin.Str.strSliceIndices
  rw [mkS_len]
  simp only [List.getElem?_toArray]
  rfl
section
variable {C : Cfg} {gl : List (Str × V)} {A : Around} {H H' : AH} {Q : V → AH → Prop}
theorem idx_drop (p n : Nat) (h : p ≤ n) : Builtin.Str.strSliceIndices (some (p : Int)) none 1 n = (List.range (n - p)).map (p + ·) := by
  have e : Builtin.Str.strSliceIndices (some (p : Int)) none 1 n = sliceRange (sliceBounds (some (p : Int)) none none n).1 (sliceBounds (some (p : Int)) none none n).2.1 (sliceBounds (some (p : Int)) none none n).2.2 := rfl
  rw [e, sliceBounds_plain]
  show sliceRange (clipAt n p : Nat) n 1 = _
  rw [sliceRange_one, clipAt_nat, Nat.min_eq_left h]
theorem gs_str_drop {l : List Nat} {p : Nat} (hp : p ≤ l.length) (hz : l.length ≤ 100000) (q : Q (.str (mkS (l.drop p))) H) : GS C A (.str (mkS l)) (some (p : Int)) none none Q H := by
  have hi := idx_drop p (mkS l).length (by rw [mkS_len]; exact hp)
  refine gs_str (x := mkS l) (y := mkS (l.drop p)) (st := none) (by decide) (by rw [mkS_len]; exact hz) ?_ ?_ ?_ q
  · rw [str_slice, pySlice_drop l p]
  · show (Builtin.Str.strSliceIndices (some (p : Int)) none 1 (mkS l).length).length ≤ _
    rw [hi, mkS_len]; simp
  · intro hc
    have hc2 := (Bool.and_eq_true_iff.mp hc).2
    have : (Builtin.Str.strSliceIndices (some (p : Int)) none 1 (mkS l).length).length = (mkS l).length := eq_of_beq hc2
    rw [hi, mkS_len] at this
    rw [List.length_map, List.length_range] at this
    by_cases h0 : p = 0
    · subst h0; rfl
    · have : l.length = 0 := (Nat.eq_zero_or_pos _).resolve_right fun h1 => absurd this (Nat.ne_of_lt (Nat.sub_lt h1 (Nat.pos_of_ne_zero h0)))
      rw [List.length_eq_zero_iff.mp this, List.drop_nil]
theorem dr_nats {a : Addr} {l : List Nat} (h : (a, AO.list (l.map fun d => V.int (d : Nat))) ∈ H) : DRel H (dIs (l.map Int.ofNat)) (.ref a) := dr_ints (by
  have e : intVs (l.map Int.ofNat) = l.map fun d => V.int (d : Nat) := by rw [intVs, List.map_map]; rfl
  rw [e]; exact h)
end
end
noncomputable section
noncomputable def fnTup (K : Frag) (fa : Addr) : Option (Str × Arguments × FuncBody × Scope × List (Str × Addr) × Addr × Addr × Value × Value × Value) := match K.lookup fa with
  | some ⟨_, _, .func fd, _⟩ => some (fd.qualname, fd.params, fd.body, fd.scope, fd.closure, fd.globals, fd.builtins, fd.defaults, fd.kwdefaults, fd.code)
  | _ => none
noncomputable def codeQ (K : Frag) (c : Addr) : Option Str := match K.lookup c with
  | some ⟨_, _, .fields vs, _⟩ => (match (vs[1]? : Option Value) with | some (.str q _) => some q | _ => none)
  | _ => none
noncomputable def codeAt (K : Frag) (fa : Addr) : Addr := match K.lookup fa with
  | some ⟨_, _, .func fd, _⟩ => (match fd.code with | .ref c => c | _ => 0)
  | _ => 0
set_option tactic.hygienic true in
theorem fnAt_of_K {K : Frag} {h : Heap} {fa c : Addr} {F : FnA} (X : K.In h) (e : fnTup K fa = some (F.qual, F.params, F.body, F.scope, F.closure, mainGlobals, builtinsNs, .none, .none, .ref c)) (e2 : codeQ K c = some F.qual) : FnAt h fa F (.ref c) := by
  unfold fnTup at e
  split at e
  · rename_i cls di fd sl q
    simp only [Option.some.injEq, Prod.mk.injEq] at e
    obtain ⟨r1, r2, r3, r4, r5, r6, r7, r8, r9, r10⟩ := e
    unfold codeQ at e2
    split at e2
    · rename_i cls' di' vs sl' q'
      split at e2
      · rename_i qn t hv
        cases e2
        exact ⟨_, fd, X _ _ q, rfl, r1, r2, r3, r4, r5, r6, r7, r8, r9, r10, ⟨c, _, vs, t, rfl, X _ _ q', rfl, hv⟩⟩
      · cases e2
    · cases e2
  · cases e
section
variable {K : Frag} {B : Heap} {mg mb : Str → Option Value} {n : Str} {Xs : List Addr}
theorem gl_fn {a : Addr} (X : K.In B) (G : B.Ns mainGlobals mg) (e : nsIn K mainGlobals n = some (some (.ref a))) : ∃ v, VRel Xs B (.ref a) v ∧ (mg n = some v ∨ (mg n = none ∧ mb n = some v)) := ⟨.ref a, by simp only [VRel], .inl (mg_of X G e)⟩
noncomputable def intIn (K : Frag) (n : Str) : Option Int := match nsIn K mainGlobals n with | some (some (.int i _)) => some i | _ => none
set_option tactic.hygienic true in
theorem gl_int {i : Int} (X : K.In B) (G : B.Ns mainGlobals mg) (e : intIn K n = some i) : ∃ v, VRel Xs B (.int i) v ∧ (mg n = some v ∨ (mg n = none ∧ mb n = some v)) := by
  unfold intIn at e
  split at e
  · rename_i j t q
    cases e
    exact ⟨.int i t, by simp only [VRel]; exact ⟨t, rfl⟩, .inl (mg_of X G q)⟩
  · cases e
theorem gl_ty {s : String} (X : K.In B) (G : B.Ns mainGlobals mg) (hb : ∀ x : Str, x ≠ "__name__" → mb x = bootBuiltins x) (e : nsIn K mainGlobals n = some none) (hv : bootBuiltins n = some (.type s)) (hn : n ≠ "__name__") : ∃ v, VRel Xs B (.ty s) v ∧ (mg n = some v ∨ (mg n = none ∧ mb n = some v)) :=
  ⟨.type s, by simp only [VRel], .inr ⟨mg_none_of X G e, (hb n hn).trans hv⟩⟩
theorem gl_bi {s : String} (X : K.In B) (G : B.Ns mainGlobals mg) (hb : ∀ x : Str, x ≠ "__name__" → mb x = bootBuiltins x) (e : nsIn K mainGlobals n = some none) (hv : bootBuiltins n = some (.builtin s)) (hn : n ≠ "__name__") : ∃ v, VRel Xs B (.bi s) v ∧ (mg n = some v ∨ (mg n = none ∧ mb n = some v)) :=
  ⟨.builtin s, by simp only [VRel], .inr ⟨mg_none_of X G e, (hb n hn).trans hv⟩⟩
end
end
noncomputable section
noncomputable def fragAt (h : Heap) (as : List Addr) : Frag := as.filterMap fun a => (h.get? a).map fun o => (a, o)
theorem fragAt_in (h : Heap) (as : List Addr) : (fragAt h as).In h := fun a o e => by
  have hm := mem_of_lookupK e
  unfold fragAt at hm
  obtain ⟨b, _, hb⟩ := List.mem_filterMap.mp hm
  cases ho : h.get? b with
  | none => rw [ho] at hb; cases hb
  | some o' =>
    rw [ho] at hb
    cases hb
    exact ho
noncomputable def tHook (as ts : List Addr) {β : Type} (chk : Frag → β) (ok : β) : Hook where
  α := β × List (Option Obj)
  obs := fun s => (chk (fragAt s.heap as), ts.map s.heap.get?)
  val := fun zz => (ok, ts.map fun zz => some (tabObj #[]))
  says := fun zz h => (∃ K : Frag, K.In h ∧ chk K = ok) ∧ ∀ P ∈ ts, h.get? P = some (tabObj #[])
  of := fun w s x => ⟨⟨fragAt s.heap as, fragAt_in s.heap as, (Prod.mk.inj x).1⟩, List.map_inj_left.mp (Prod.mk.inj x).2⟩
  keeps := fun w h h' x k => ⟨let ⟨K, a, b⟩ := x.1; ⟨K, a.keeps k, b⟩, fun P hP => k _ _ (x.2 P hP)⟩
theorem nth_of {α : Type} {l m : List α} (e : l = m) (i : Nat) : l[i]? = m[i]? := by rw [e]
end
noncomputable section
section
variable {C C' : Cfg} {A : Around} {env : Env} {pos tpos : Pos} {target : Expr} {H H' : AH} {Q : V → AH → Prop} {QB : Bool → AH → Prop} {QI : Cfg → (Nat → AH → Option V → Prop) → AH → Prop}
-- sums
-- the lesser of two
theorem c_min2 {a b : Int} (hA : A.handled = none) (q : Q (.int (min a b)) H) : WPC C A (.bi "min") [.int a, .int b] Q H := wpc_bi fun avs s ra R => by
  obtain ⟨v, w, rfl, r1, r2⟩ := rel2 ra
  simp only [VRel] at r1 r2; obtain ⟨t, rfl⟩ := r1; obtain ⟨u, rfl⟩ := r2
  have hT : (s.heap.push { cls := .type "tuple", data := .seq #[.int a t, .int b u] }).IsTuple s.heap.objs.size #[.int a t, .int b u] := ⟨_, Heap.get?_push_size _ rfl, rfl, 0, rfl⟩
  refine call_min_two (wpAny_pyIter_tuple hT ⟨_, _, _, _, _, _, fun i j => decide ((if i = 0 then a else b) < (if j = 0 then a else b)), rfl,
    Walks.tuple (A := A.in1) hA (s.heap.push { cls := .type "tuple", data := .seq #[.int a t, .int b u] }).objs.size s.heap.objs.size (by rw [Heap.size_push]; exact Nat.ne_add_one s.heap.objs.size) #[.int a t, .int b u],
    ⟨⟨_, Heap.get?_push_size _ rfl, rfl, rfl⟩, ⟨_, Heap.get?_push_of_some _ (Heap.get?_push_size _ rfl), rfl, 0, rfl⟩⟩, fun x hx => ?_, Nat.zero_lt_succ _, CmpOf.ints_lt (fun i => if i = 0 then a else b) (fun i v hv => ?_), fun v h' tk hP k => ?_⟩)
  · simp at hx
    show x < ((s.heap.push _).push _).objs.size
    rw [Heap.size_push, Heap.size_push]
    rcases hx with rfl | rfl <;> lia
  · match i, hv with
    | 0, hv => simp at hv; exact ⟨t, hv.symm⟩
    | 1, hv => simp at hv; exact ⟨u, hv.symm⟩
    | i + 2, hv => simp at hv
  · have k' : ∀ x o, s.heap.get? x = some o → h'.get? x = some o := fun x o e => k x o (fun hm => by
      have := List.mem_singleton.mp hm
      rw [Heap.size_push] at this
      exact absurd (Heap.lt_size e) (by lia)) (Heap.get?_push_of_some _ (Heap.get?_push_of_some _ e))
    have hv : ∃ t', v = .int (min a b) t' := by
      have e1 : (#[Value.int a t, .int b u] : Array Value).size - 1 = 1 := rfl
      rw [e1] at hP
      simp only [argBest] at hP
      by_cases hba : b < a
      · rw [if_pos (by simpa using hba)] at hP
        simp at hP
        exact ⟨u, by rw [← hP, show min a b = b from Int.min_eq_right (Int.le_of_lt hba)]⟩
      · rw [if_neg (by simpa using hba)] at hP
        simp at hP
        exact ⟨t, by rw [← hP, show min a b = a from Int.min_eq_left (Int.not_lt.mp hba)]⟩
    exact post_ext (s := s) (x := V.int (min a b)) R k' hv q
-- ranges as objects
noncomputable def rangeObj (a b c : Int) (t u v : Tok) : Obj := { cls := .type "range", data := .fields #[.int a t, .int b u, .int c v] }
theorem c_range1 {n : Int} (q : ∀ r t u v, Q (.ref r) ((r, .obj (rangeObj 0 n 1 t u v)) :: H)) : WPC C A (.ty "range") [.int n] Q H := wpc_ty fun avs s ra R => by
  obtain ⟨v, rfl, r1⟩ := rel1 ra
  simp only [VRel] at r1; obtain ⟨t, rfl⟩ := r1
  refine call_range_1 ?_
  have ext : ∀ b o, s.heap.get? b = some o → (s.heap.push (rangeObj 0 n 1 s.toks t (s.toks + 1))).get? b = some o := fun b o e => Heap.get?_push_of_some _ e
  exact ⟨.ref s.heap.objs.size, _, q _ _ _ _, rfl, R.add (t := s.toks + 1 + 1) (x := .obj (rangeObj 0 n 1 s.toks t (s.toks + 1))) ext (Nat.le_refl _) ⟨Heap.get?_push_size _ rfl, by simp [Frozen, rangeObj]⟩, kept_add (t := s.toks + 1 + 1) ext (Nat.le_refl _)⟩
theorem pi_range {r : Addr} {a b : Int} {t u v : Tok} (hA : A.handled = none) (h1 : a.natAbs < 2 ^ 60) (h2 : b.natAbs < 2 ^ 60) (hr : (r, AO.obj (rangeObj a b 1 t u v)) ∈ H) (q : QI C (rangeItem a b 1) H) : PI C A target (.ref r) QI H := fun x s rv R => by
  simp only [VRel] at rv; subst rv
  exact iter_range (s₀ := s) (s := s) hA (by decide) (range_small h1 h2) R (fun b o e => e) (Nat.le_refl _) ⟨_, _, rfl⟩ (R.objs _ hr).1 q
end
end
noncomputable section
section
variable {C C' : Cfg} {A : Around} {env : Env} {pos tpos : Pos} {target : Expr} {H H' : AH} {Q : V → AH → Prop} {QB : Bool → AH → Prop} {QI : Cfg → (Nat → AH → Option V → Prop) → AH → Prop}




end
end
noncomputable section
theorem listItem_some {l : Addr} {xs : List V} {i : Nat} {x : V} {H : AH} (h : (l, AO.list xs) ∈ H) (e : xs[i]? = some x) : listItem l i H (some x) := ⟨xs, h, e.symm⟩
theorem listItem_none {l : Addr} {xs : List V} {i : Nat} {H : AH} (h : (l, AO.list xs) ∈ H) (e : xs.length ≤ i) : listItem l i H none := ⟨xs, h, (List.getElem?_eq_none e).symm⟩
section
variable {C : Cfg} {A : Around} {α β : Type} {T : Heap → β → α → Prop} {t : Sem α} {Q Q' : β → AH → Prop} {H : AH}
theorem WP.less (h : WP C A T t (fun x H₁ => ∃ X, Sub X H₁ ∧ Q x X) H) : WP C A T t Q H := fun s R =>
  wpAny_mono (h s R) (fun zz zz p => Post.el p fun x H₁ q r R₁ kp => q.elim fun X q => ⟨x, X, q.2, r, R₁.sub q.1, kp.sub q.1⟩) fun zz zz e => e
end
noncomputable def nls (rs : List Addr) (vss : List (List V)) : AH := ((rs.zip vss).map fun p => (p.1, AO.list p.2)).reverse
theorem nl_snoc {rs : List Addr} {vss : List (List V)} (r : Addr) (vs : List V) (h : rs.length = vss.length) : nls (rs ++ [r]) (vss ++ [vs]) = (r, .list vs) :: nls rs vss := by
  simp [nls, List.zip_append h]
section
variable {C C' : Cfg} {A : Around} {cenv : Env} {cn' : List (Str × Addr)} {gn' : List Str} {H : AH} {c a : Addr} {elt : Expr}
theorem turns_map {y : Str} {py : Pos} {xs ys : List V} {Item : Nat → AH → Option V → Prop} {Fin : List V → AH → Prop} (FE : FEnv cenv c [y] cn' gn') (hl : ys.length = xs.length) (hz : xs.length ≤ 100000)
    (hI : ∀ (i : Nat) x o acc, xs[i]? = some x → Item i ((c, .ns [y] [o]) :: (a, .list acc) :: H) (some x)) (hN : ∀ o acc, Item xs.length ((c, .ns [y] [o]) :: (a, .list acc) :: H) none)
    (he : ∀ (i : Nat) x v acc, xs[i]? = some x → ys[i]? = some v → WP C' A (VRel C'.X) (eval elt cenv) (fun u H₄ => u = v ∧ Sub ((c, .ns [y] [some x]) :: (a, .list acc) :: H) H₄) ((c, .ns [y] [some x]) :: (a, .list acc) :: H))
    (hf : ∀ o, Fin ys ((c, .ns [y] [o]) :: (a, .list ys) :: H)) : CompTurns C C' A cenv (.Name y py) [] elt a Item Fin ((c, .ns [y] [none]) :: (a, .list []) :: H) := by
  refine ⟨fun i acc H₁ => acc = ys.take i ∧ ∃ o, H₁ = (c, .ns [y] [o]) :: (a, .list acc) :: H, xs.length, ⟨rfl, none, rfl⟩, ?_⟩
  rintro i acc H₁ hi ⟨rfl, o, rfl⟩
  by_cases h : i < xs.length
  · left
    have hx : xs[i]? = some xs[i] := List.getElem?_eq_getElem h
    have hy : ys[i]? = some (ys[i]'(hl ▸ h)) := List.getElem?_eq_getElem _
    refine ⟨xs[i], h, hI i _ _ _ hx, asg_Name (store_local FE .head .head (wpt_nil ⟨fun zz => ?_, fun e => nomatch e⟩))⟩
    refine WP.less ((he i _ _ _ hx hy).mono ?_)
    rintro u H₄ ⟨rfl, hs⟩
    exact ⟨_, hs, by rw [List.length_take]; lia, _, .tail .head, List.take_append_getElem _, _, rfl⟩
  · right
    have : i = xs.length := by lia
    subst this
    rw [← hl, List.take_length]
    exact ⟨hl ▸ hN _ _, hf _⟩
theorem turns_map2 {y z : Str} {py pz pt : Pos} {k : Nat} {xs ys : List V} {Item : Nat → AH → Option V → Prop} {Fin : List V → AH → Prop} (FE : FEnv cenv c [y, z] cn' gn') (hA : A.handled = none) (hl : ys.length = xs.length) (hz : xs.length ≤ 100000)
    (hP : ∀ (i : Nat) x, xs[i]? = some x → ∃ u w, x = .tup [u, w])
    (hI : ∀ (i : Nat) x os acc, xs[i]? = some x → Item i ((c, .ns [y, z] os) :: (a, .list acc) :: H) (some x)) (hN : ∀ os acc, Item xs.length ((c, .ns [y, z] os) :: (a, .list acc) :: H) none)
    (he : ∀ (i : Nat) u w v acc, xs[i]? = some (.tup [u, w]) → ys[i]? = some v → WP C' A (VRel C'.X) (eval elt cenv) (fun r H₄ => r = v ∧ Sub ((c, .ns [y, z] [some u, some w]) :: (a, .list acc) :: H) H₄) ((c, .ns [y, z] [some u, some w]) :: (a, .list acc) :: H))
    (hf : ∀ os, Fin ys ((c, .ns [y, z] os) :: (a, .list ys) :: H)) : CompTurns C C' A cenv (.Tuple [.Name y py, .Name z pz] k pt) [] elt a Item Fin ((c, .ns [y, z] [none, none]) :: (a, .list []) :: H) := by
  refine ⟨fun i acc H₁ => acc = ys.take i ∧ ∃ o o', H₁ = (c, .ns [y, z] [o, o']) :: (a, .list acc) :: H, xs.length, ⟨rfl, none, none, rfl⟩, ?_⟩
  rintro i acc H₁ hi ⟨rfl, o, o', rfl⟩
  by_cases h : i < xs.length
  · left
    have hx : xs[i]? = some xs[i] := List.getElem?_eq_getElem h
    have hy : ys[i]? = some (ys[i]'(hl ▸ h)) := List.getElem?_eq_getElem _
    refine ⟨xs[i], h, hI i _ _ _ hx, ?_⟩
    obtain ⟨u, w, e⟩ := hP i _ hx
    rw [e] at hx ⊢
    refine asg_Tuple hA (wpas_cons (asg_Name (store_local FE .head .head (wpas_cons (asg_Name (store_local FE .head (.tail .head) (wpas_nil (wpt_nil ⟨fun zz => ?_, fun e => nomatch e⟩))))))))
    refine WP.less ((he i _ _ _ _ hx hy).mono ?_)
    rintro r H₄ ⟨rfl, hs⟩
    exact ⟨_, hs, by rw [List.length_take]; lia, _, .tail .head, List.take_append_getElem _, _, _, rfl⟩
  · right
    have : i = xs.length := by lia
    subst this
    rw [← hl, List.take_length]
    exact ⟨hl ▸ hN _ _, hf _⟩
theorem turns_new {y : Str} {py : Pos} {xs : List V} {vss : List (List V)} {Item : Nat → AH → Option V → Prop} {Fin : List V → AH → Prop} (FE : FEnv cenv c [y] cn' gn') (hl : vss.length = xs.length) (hz : xs.length ≤ 100000)
    (hI : ∀ (i : Nat) x o acc G, (∀ p ∈ H, p ∈ G) → xs[i]? = some x → Item i ((c, .ns [y] [o]) :: (a, .list acc) :: G) (some x)) (hN : ∀ o acc G, (∀ p ∈ H, p ∈ G) → Item xs.length ((c, .ns [y] [o]) :: (a, .list acc) :: G) none)
    (he : ∀ (i : Nat) x vs acc G, (∀ p ∈ H, p ∈ G) → xs[i]? = some x → vss[i]? = some vs → WP C' A (VRel C'.X) (eval elt cenv) (fun u H₄ => ∃ r, u = .ref r ∧ Sub ((c, .ns [y] [some x]) :: (a, .list acc) :: (r, .list vs) :: G) H₄) ((c, .ns [y] [some x]) :: (a, .list acc) :: G))
    (hf : ∀ o rs, rs.length = vss.length → Fin (rs.map V.ref) ((c, .ns [y] [o]) :: (a, .list (rs.map V.ref)) :: (nls rs vss ++ H))) : CompTurns C C' A cenv (.Name y py) [] elt a Item Fin ((c, .ns [y] [none]) :: (a, .list []) :: H) := by
  refine ⟨fun i acc H₁ => ∃ rs o, rs.length = i ∧ acc = rs.map V.ref ∧ H₁ = (c, .ns [y] [o]) :: (a, .list acc) :: (nls rs (vss.take i) ++ H), xs.length, ⟨[], none, rfl, rfl, rfl⟩, ?_⟩
  rintro i acc H₁ hi ⟨rs, o, hr, rfl, rfl⟩
  by_cases h : i < xs.length
  · left
    have hx : xs[i]? = some xs[i] := List.getElem?_eq_getElem h
    have hy : vss[i]? = some (vss[i]'(hl ▸ h)) := List.getElem?_eq_getElem _
    refine ⟨xs[i], h, hI i _ _ _ _ (fun p => List.mem_append_right _) hx, asg_Name (store_local FE .head .head (wpt_nil ⟨fun zz => ?_, fun e => nomatch e⟩))⟩
    refine WP.less ((he i _ _ _ _ (fun p => List.mem_append_right _) hx hy).mono ?_)
    rintro u H₄ ⟨r, rfl, hs⟩
    refine ⟨_, hs, by rw [List.length_map]; lia, _, .tail .head, rs ++ [r], some xs[i], by simp [hr], by simp, ?_⟩
    rw [← List.take_append_getElem (hl ▸ h), nl_snoc _ _ (by rw [List.length_take]; lia)]
    rfl
  · right
    have : i = xs.length := by lia
    subst this
    rw [← hl, List.take_length]
    exact ⟨hl ▸ hN _ _ _ fun p => List.mem_append_right _, hf _ _ (hl ▸ hr)⟩
theorem turns_mapL {α : Type} {l : List α} {g f : α → V} {y : Str} {py : Pos} {Item : Nat → AH → Option V → Prop} {Fin : List V → AH → Prop} (FE : FEnv cenv c [y] cn' gn') (hz : l.length ≤ 100000)
    (hI : ∀ (i : Nat) k o acc, l[i]? = some k → Item i ((c, .ns [y] [o]) :: (a, .list acc) :: H) (some (g k))) (hN : ∀ o acc, Item l.length ((c, .ns [y] [o]) :: (a, .list acc) :: H) none)
    (he : ∀ k ∈ l, ∀ acc, WP C' A (VRel C'.X) (eval elt cenv) (fun u H₄ => u = f k ∧ Sub ((c, .ns [y] [some (g k)]) :: (a, .list acc) :: H) H₄) ((c, .ns [y] [some (g k)]) :: (a, .list acc) :: H))
    (hf : ∀ o, Fin (l.map f) ((c, .ns [y] [o]) :: (a, .list (l.map f)) :: H)) : CompTurns C C' A cenv (.Name y py) [] elt a Item Fin ((c, .ns [y] [none]) :: (a, .list []) :: H) :=
  turns_map (xs := l.map g) (ys := l.map f) FE (by simp) (by simpa using hz) (fun i x o acc h => by
    simp only [List.getElem?_map, Option.map_eq_some_iff] at h
    obtain ⟨k, hk, rfl⟩ := h
    exact hI i k o acc hk) (fun o acc => by simpa using hN o acc) (fun i x v acc hx hv => by
    simp only [List.getElem?_map, Option.map_eq_some_iff] at hx hv
    obtain ⟨k, hk, rfl⟩ := hx
    rw [hk] at hv
    simp only [Option.some.injEq, exists_eq_left'] at hv
    subst hv
    exact he k (List.mem_of_getElem? hk) acc) hf
theorem turns_newL {α : Type} {l : List α} {g : α → V} {f : α → List V} {y : Str} {py : Pos} {Item : Nat → AH → Option V → Prop} {Fin : List V → AH → Prop} (FE : FEnv cenv c [y] cn' gn') (hz : l.length ≤ 100000)
    (hI : ∀ (i : Nat) k o acc G, (∀ p ∈ H, p ∈ G) → l[i]? = some k → Item i ((c, .ns [y] [o]) :: (a, .list acc) :: G) (some (g k))) (hN : ∀ o acc G, (∀ p ∈ H, p ∈ G) → Item l.length ((c, .ns [y] [o]) :: (a, .list acc) :: G) none)
    (he : ∀ (i : Nat) k, l[i]? = some k → ∀ acc G, (∀ p ∈ H, p ∈ G) → WP C' A (VRel C'.X) (eval elt cenv) (fun u H₄ => ∃ r, u = .ref r ∧ Sub ((c, .ns [y] [some (g k)]) :: (a, .list acc) :: (r, .list (f k)) :: G) H₄) ((c, .ns [y] [some (g k)]) :: (a, .list acc) :: G))
    (hf : ∀ o rs, rs.length = l.length → Fin (rs.map V.ref) ((c, .ns [y] [o]) :: (a, .list (rs.map V.ref)) :: (nls rs (l.map f) ++ H))) : CompTurns C C' A cenv (.Name y py) [] elt a Item Fin ((c, .ns [y] [none]) :: (a, .list []) :: H) :=
  turns_new (xs := l.map g) (vss := l.map f) FE (by simp) (by simpa using hz) (fun i x o acc P hP h => by
    simp only [List.getElem?_map, Option.map_eq_some_iff] at h
    obtain ⟨k, hk, rfl⟩ := h
    exact hI i k o acc P hP hk) (fun o acc P hP => by simpa using hN o acc P hP) (fun i x vs acc P hP hx hv => by
    simp only [List.getElem?_map, Option.map_eq_some_iff] at hx hv
    obtain ⟨k, hk, rfl⟩ := hx
    rw [hk] at hv
    simp only [Option.some.injEq, exists_eq_left'] at hv
    subst hv
    exact he i k hk acc P hP) fun o rs h => hf o rs (by simpa using h)
theorem enum_some {l : Addr} {xs : List V} {i : Nat} {x : V} {H : AH} (h : (l, AO.list xs) ∈ H) (e : xs[i]? = some x) : enumItem (listItem l) i H (some (.tup [.int (i : Nat), x])) := ⟨some x, listItem_some h e, rfl⟩
theorem enum_none {l : Addr} {xs : List V} {i : Nat} {H : AH} (h : (l, AO.list xs) ∈ H) (e : xs.length ≤ i) : enumItem (listItem l) i H none := ⟨none, listItem_none h e, rfl⟩
theorem range_item {p i k : Nat} {H : AH} (h : (List.range p)[i]? = some k) : rangeItem 0 (p : Int) 1 i H (some (.int (k : Nat))) := by
  obtain ⟨hk, rfl⟩ := List.getElem?_eq_some_iff.mp h
  rw [List.length_range] at hk
  rw [List.getElem_range]
  exact range_some (by exact Int.ofNat_lt.mpr hk)
theorem range_end {p : Nat} {H : AH} : rangeItem 0 (p : Int) 1 (List.range p).length H none := range_none (by simp)
end
theorem swap_const {env : Env} {ts vs : List Expr} {k k' : Nat} {p p' : Pos} (h : vs.all (foldedForSure 8) = true) : swappedStores [.Tuple ts k p] (.Tuple vs k' p') env = pure none := by
  unfold swappedStores
  dsimp only
  split
  · rfl
  split
  · rfl
  split
  · rfl
  first | rfl | (simp only [h, if_true]; done) | (simp only [h, if_true]; rfl)
end
noncomputable section
theorem eqv_list_self : ∀ {ds : List PyData}, (∀ d ∈ ds, PyData.eqv d d = true) → PyData.eqv (.list ds) (.list ds) = true
  | [], _ => eqv_nil
  | d :: ds, h => by rw [eqv_cons, h d (.head _), eqv_list_self fun e he => h e (.tail _ he)]; rfl
theorem eqv_tup_self {ds : List PyData} (h : ∀ d ∈ ds, PyData.eqv d d = true) : PyData.eqv (.tuple ds) (.tuple ds) = true := by
  have := eqv_list_self h
  simp only [PyData.eqv] at this ⊢
  exact this
theorem eqv_int_self {i : Int} : PyData.eqv (.int i) (.int i) = true := by rw [eqv_int]; simp
theorem eqv_str_self {l : List Nat} : PyData.eqv (dS l) (dS l) = true := by rw [eqv_str]; simp
theorem eqv_strs_self {l : List (List Nat)} : PyData.eqv (dSs l) (dSs l) = true := by rw [eqv_strs]; simp
theorem dok_tup {n : Nat} {ds : List PyData} (h : ∀ d ∈ ds, DOk n d) : DOk (n + 1) (.tuple ds) := by
  obtain ⟨h1, h2⟩ := dok_all h
  exact ⟨by simpa only [PyData.canLay0] using h1, by simp only [PyData.depth]; exact Nat.add_le_add_right h2 1⟩
section
variable {a : Addr} {H : AH}
theorem dr_tup {ds : List PyData} {vs : List V} (r : DsRel H ds vs) : DRel H (.tuple ds) (.tup vs) := by simp only [DRel]; exact ⟨vs, rfl, r⟩
end
theorem Upd.app {a : Addr} {x y : AO} {X H H' : AH} (h : Upd a x y H H') : Upd a x y (X ++ H) (X ++ H') := by
  induction X with
  | nil => exact h
  | cons p X ih => exact .tail ih
theorem hole_of_mem {a : Addr} {x : AO} : ∀ {H : AH}, (a, x) ∈ H → ∃ K, Hole a x H K
  | [], h => nomatch h
  | p :: H, h => by
    rcases List.mem_cons.mp h with e | h
    · subst e; exact ⟨_, .head⟩
    · obtain ⟨K, hk⟩ := hole_of_mem h; exact ⟨_, .tail hk⟩
theorem hole2_of_mem {a b : Addr} {x y : AO} (ne : (a, x) ≠ (b, y)) : ∀ {H : AH}, (a, x) ∈ H → (b, y) ∈ H → ∃ K, Hole2 a x b y H K
  | [], h, _ => nomatch h
  | p :: H, h1, h2 => by
    rcases List.mem_cons.mp h1 with e | g1
    · subst e
      rcases List.mem_cons.mp h2 with e | g2
      · exact absurd e.symm ne
      · obtain ⟨K, hk⟩ := hole_of_mem g2; exact ⟨_, .fst hk⟩
    · rcases List.mem_cons.mp h2 with e | g2
      · obtain ⟨K, hk⟩ := hole_of_mem g1; subst e; exact ⟨_, .snd hk⟩
      · obtain ⟨K, hk⟩ := hole2_of_mem ne g1 g2; exact ⟨_, .tail hk⟩
theorem WP.nd {C : Cfg} {A : Around} {α β : Type} {T : Heap → β → α → Prop} {t : Sem α} {Q : β → AH → Prop} {H : AH} (h : (keys H).Nodup → WP C A T t Q H) : WP C A T t Q H := fun s R => h R.nd s R
end
noncomputable section
-- raising
section
variable {prog : Program} {w : World} {A : Around} {E : Value → Shared → Prop} {s : Shared} {env : Env} {X N I : String}
theorem raise_name {x : Str} {np pos : Pos} {n i : String} {Q : Flow → Shared → Prop} (hh : A.handled = none) (hc : ExcClass X N I) (F : ExcCallFacts X n i) (hself : isSubtype (.type X) (.type X) = pure true)
    (hx : wpAny (model prog w) A (eval (.Name x np) env) (fun v s₁ => v = .type X ∧ ∀ h' e, Heap.MadeExc s₁.heap h' e X [] → E (.ref e) { s₁ with heap := h' }) E s) :
    wpAny (model prog w) A (exec (.Raise (some (.Name x np)) none pos) env) Q E s := by
  show wpAny (model prog w) A (do standAt pos; raiseStmt env (some (do let v ← eval (.Name x np) env; standAt pos; pure v)) none) Q E s
  refine wpAny_bind (wpAny_standAt ?_)
  unfold raiseStmt
  dsimp only
  refine wpAny_bind (wpAny_bind (wpAny_mono hx (fun v s₁ h₁ => wpAny_bind (wpAny_standAt (wpAny_pure (E02 h₁ fun ev h => ?_)))) fun zz zz e => e))
  subst ev
  refine wpAny_bind (wpAny_pure ?_)
  dsimp only
  refine wpAny_bind (wpAny_holding ?_)
  unfold excFromValue isExcClass
  refine wpAny_bind (wpAny_bind (wpAny_pure ?_))
  simp only [if_true]
  rw [hc.base]
  refine wpAny_pure ?_
  simp only [if_true]
  refine wpAny_bind (wpAny_call_exc F fun h' e hm => ?_)
  have hn := hm.newExc
  refine E23 hn.there fun ob t he hcls hd => ?_
  have hT : ({ s₁ with heap := h' } : Shared).TypeIs (.ref e) X := ⟨ob, he, hcls⟩
  refine wpAny_bind (wpAny_isInstance hT hc.base ?_)
  simp only [Bool.not_true, Bool.false_eq_true, if_false]
  refine wpAny_pure ?_
  first | (refine wpAny_bind (m := isType (.type X)) (wpAny_pure ?_)) | (refine wpAny_bind (wpAny_pure ?_))
  first | (rw [if_pos rfl]) | (simp only [if_true]) | dsimp only
  refine wpAny_bind (wpAny_holding ?_)
  unfold raisedFor
  first | (simp only [Bool.false_eq_true, if_false]) | (rw [if_neg (by decide)]) | skip
  first | (refine wpAny_bind (wpAny_typeOf hT ?_)) | (refine wpAny_bind ?_; refine wpAny_bind (wpAny_typeOf hT ?_))
  refine wpAny_bind (call_issubclass (issubclass_self hc hself) ?_)
  first | (refine wpAny_bind (wpAny_truthy_bool ?_)) | (refine wpAny_truthy_bool ?_) | (dsimp only [wants]; first | (refine wpAny_bind (wpAny_truthy_bool ?_)) | (refine wpAny_truthy_bool ?_))
  first | (rw [if_pos rfl]) | (simp only [if_true]) | skip
  refine wpAny_pure ?_
  unfold setFlight raiseNew
  refine wpAny_bind (wpAny_bind (wpAny_field (i := 1) (x := Value.none) he hd rfl ?_))
  rw [if_neg (by decide)]
  refine wpAny_pure (wpAny_bind (wpAny_handled ?_))
  rw [hh]
  first
    | exact wpAny_throw (h h' e hm)
    | exact wpAny_bind (wpAny_pure (wpAny_throw (h h' e hm)))
end
section
variable {C : Cfg} {gl : List (Str × V)} {A : Around} {env : Env} {pos tpos : Pos} {H H' : AH} {l : List Env}
noncomputable abbrev frs (l : List Env) : List Addr := l.filterMap (·.frame)
noncomputable def Stk (l : List Env) (H : AH) : Prop := ∀ env ∈ l, env.scope.kind ≠ .module ∧ ∃ L ns vals, env.frame = some L ∧ (L, AO.ns ns vals) ∈ H
theorem Stk.ns (K : Stk l H) {b : Addr} (h : b ∈ frs l) : ∃ ns vals, (b, AO.ns ns vals) ∈ H := by
  obtain ⟨env, he, hf⟩ := List.mem_filterMap.mp h
  obtain ⟨_, L, ns, vals, e, m⟩ := K env he
  rw [e] at hf; cases hf; exact ⟨ns, vals, m⟩
theorem Stk.key (K : Stk l H) {b : Addr} (h : b ∈ frs l) : b ∈ keys H := E21 (K.ns h) fun zz zz m => List.mem_map_of_mem (f := Prod.fst) m
theorem Stk.fun {s : Shared} (R : Rel C H s) : ∀ {l : List Env}, Stk l H → s.heap.FunFrames C.B l
  | [], _ => trivial
  | env :: l, K => by
    obtain ⟨k, L, ns, vals, e, m⟩ := K env (.head _)
    obtain ⟨_, mm, ⟨o, es, ep, ho, hd, _⟩, _⟩ := R.objs _ m
    exact ⟨k, ⟨L, o, e, R.fresh _ m, ho, fun vs q => by rw [hd] at q; cases q⟩, Stk.fun R fun env he => K env (.tail _ he)⟩
theorem Stk.to (K : Stk l H) (k : ∀ p ∈ H, p ∈ H') : Stk l H' := fun env he => ⟨(K env he).1, E32 (K env he).2 fun L ns vals e m => ⟨L, ns, vals, e, k _ m⟩⟩
theorem nodup_key {H : AH} (nd : (keys H).Nodup) {a : Addr} {x y : AO} (hx : (a, x) ∈ H) (hy : (a, y) ∈ H) : x = y := by
  induction H with
  | nil => cases hx
  | cons p r ih =>
    obtain ⟨h1, h2⟩ := List.nodup_cons.mp nd
    rcases List.mem_cons.mp hx with e | hx
    · rcases List.mem_cons.mp hy with e' | hy
      · rw [← e'] at e; exact (Prod.mk.inj e).2
      · exact absurd (List.mem_map_of_mem (f := Prod.fst) hy) (by rw [← e] at h1; exact h1)
    · rcases List.mem_cons.mp hy with e' | hy
      · exact absurd (List.mem_map_of_mem (f := Prod.fst) hx) (by rw [← e'] at h1; exact h1)
      · exact ih h2 hx hy
theorem Rel.slots {s : Shared} {h' : Heap} {t : Tok} (R : Rel C H s) (K : Stk l H) (st : (hideAll s.heap (frs l)).StaysIn h') (u : s.heap.UpToSlots h') :
    Rel C H { s with heap := h', toks := t } ∧ Kept H s H { s with heap := h', toks := t } := by
  have same : ∀ b o, b ∉ frs l → s.heap.get? b = some o → h'.get? b = some o := fun b o n e => st b o (hideAll_get _ e n)
  have fz : Fz C.X s.heap h' := fun a o e f => same a o (fun q => R.notin e f (K.key q)) e
  refine ⟨⟨fun b o e => same b o (fun q => ?_) (R.keep b o e), R.gens, R.os, R.nd, R.fresh, fun p hp => ?_, fun a ha => ?_⟩, fun b o n e => ⟨same b o (fun q => n (K.key q)) e, n⟩⟩
  · obtain ⟨ns, vals, m⟩ := K.ns q
    rw [R.fresh _ m] at e; cases e
  · by_cases q : p.1 ∈ frs l
    · obtain ⟨ns, vals, m⟩ := K.ns q
      obtain ⟨a, x⟩ := p
      obtain rfl := nodup_key R.nd hp m
      exact E02 (R.objs _ m) fun nd r => ⟨nd, E12 r fun mm n r => ⟨mm, u.ns n, r.fz fz⟩⟩
    · exact (R.objs p hp).move fz fun o e => same _ o q e
  · exact E02 (R.xl a ha) fun n r => ⟨n, r.elim fun o e => ⟨o, same a o (fun q => n (K.key q)) e⟩⟩
end
end
noncomputable section
section
variable {C : Cfg} {gl : List (Str × V)} {A : Around} {env : Env} {pos tpos : Pos} {H H' : AH} {l : List Env} {Y : AH → Prop} {α : Type} {Q : V → AH → Prop} {QF : Fl → AH → Prop} {QL : List V → AH → Prop}
noncomputable abbrev zde : Value := .type "ZeroDivisionError"
inductive Raised (C : Cfg) (Y : AH → Prop) (H : AH) (s : Shared) : Value → Shared → Prop
  | mk (e : Addr) (H₁ : AH) (s₁ : Shared) (h' : Heap) (y : Y H₁) (R : Rel C H₁ s₁) (k : Kept H s H₁ s₁) (hx : Heap.MadeExcOf s₁.heap h' e zde []) : Raised C Y H s (.ref e) { s₁ with heap := h' }
inductive Fly (C : Cfg) (l : List Env) (Y : AH → Prop) (H : AH) (s : Shared) : Value → Shared → Prop
  | mk (e t : Addr) (H₁ : AH) (s₁ : Shared) (l₁ : List Env) (h' : Heap) (y : Y H₁) (R : Rel C H₁ s₁) (k : Kept H s H₁ s₁) (K : Stk l₁ H₁)
      (fl : Heap.FlyingW (hideAll s₁.heap (frs l₁)) l e zde (.ref t) h') (u : s₁.heap.UpToSlots h') (ta : h'.TupAt t []) : Fly C l Y H s (.ref e) { s₁ with heap := h' }
theorem Fly.pre {s s₁ : Shared} {H₁ : AH} {e : Value} {s' : Shared} (k : Kept H s H₁ s₁) (f : Fly C l Y H₁ s₁ e s') : Fly C l Y H s e s' := by
  cases f with | mk e t H₂ s₂ l₁ h' y R k' K fl u ta => exact ⟨e, t, H₂, s₂, l₁, h', y, R, k.trans k', K, fl, u, ta⟩
theorem Raised.pre {s s₁ : Shared} {H₁ : AH} {e : Value} {s' : Shared} (k : Kept H s H₁ s₁) (f : Raised C Y H₁ s₁ e s') : Raised C Y H s e s' := by
  cases f with | mk e H₂ s₂ h' y R k' hx => exact ⟨e, H₂, s₂, h', y, R, k.trans k', hx⟩
noncomputable def WR (C : Cfg) (A : Around) (l : List Env) (Y : AH → Prop) (f : Sem α) (H : AH) : Prop := ∀ s, Rel C H s → wpAny (model C.prog C.w) A f (fun zz zz => False) (Fly C l Y H s) s
noncomputable def WX (C : Cfg) (A : Around) (Y : AH → Prop) (f : Sem α) (H : AH) : Prop := ∀ s, Rel C H s → wpAny (model C.prog C.w) A f (fun zz zz => False) (Raised C Y H s) s
theorem wx_raise {x : Str} {np : Pos} {L : Addr} {ln gn : List Str} {cn : List (Str × Addr)} (G : C.Ok gl) (FE : FEnv env L ln cn gn) (hA : A.handled = none) (hg : (x, V.ty "ZeroDivisionError") ∈ gl) (hx : x ∈ gn) (y : Y H) :
    WX C A Y (exec (.Raise (some (.Name x np)) none pos) env) H := fun s R =>
  raise_name hA excClass_ZeroDivisionError PySem.F.excCall_ZeroDivisionError (by rw [isSubtype_type]; kernel_rfl) (wpAny_mono (wp_glob (Q := fun v H₁ => v = .ty "ZeroDivisionError" ∧ H₁ = H) G FE hg hx ⟨rfl, rfl⟩ s R)
    (fun v s₁ p => Post.el p fun x H₁ q rv R₁ k => E02 q fun e1 e2 => by
      subst e1 e2
      exact ⟨by simpa only [VRel] using rv, fun h' e hm => ⟨e, H₁, s₁, h', y, R₁, k, hm.of⟩⟩) fun zz zz e => e.elim)
theorem wx_cons {st : Stmt} {rest : List Stmt} (h : WX C A Y (exec st env) H) : WX C A Y (execs (st :: rest) env) H := fun s R =>
  wpAny_execs_cons (wpAny_mono (h s R) (fun zz zz e => e.elim) fun zz zz e => e)
theorem wx_If {test : Expr} {body orelse : List Stmt} (h : WPB C A env test (fun b H₁ => b = true ∧ WX C A Y (execs body env) H₁) H) : WX C A Y (exec (.If test body orelse pos) env) H := fun s R =>
  wpAny_If (wpAny_mono (h s R) (fun b s₁ p => Post.el p fun t H₁ q rt R₁ k => by
    cases rt
    rw [q.1]
    exact wpAny_mono (q.2 s₁ R₁) (fun zz zz e => e) fun zz zz e => e.pre k) fun zz zz e => e.elim)
theorem raise_fn {fa : Addr} {F : FnA} {D : Value → Prop} {ln : List Str} {xs : List V} {vals : List (Option V)} {body : List Stmt} {n : Nat}
    (G : C.Ok gl) (hF : ∀ s, Rel C H s → ∃ cd, D cd ∧ FnAt s.heap fa F cd) (hroom : Room A (n + 1)) (hb : F.body = .stmts body) (hbind : Binds F (ln.take xs.length))
    (hln : ∀ x ∈ ln, F.scope.names.lookup x = some .local) (nd : ln.Nodup) (hcell : ∀ x ∈ F.scope.names, x.2 ≠ .cell) (i : Init ln xs vals) (hfr : A.frames = some l) (K : Stk l H)
    (h : ∀ L cd, D cd → WX C (A.deeper (envF F L fa cd F.closure)) (fun H₁ => (∀ p ∈ H, p ∈ H₁) ∧ (∃ vs, (L, .ns ln vs) ∈ H₁) ∧ Y H₁) (execs body (envF F L fa cd F.closure)) ((L, .ns ln vals) :: H))
    (hco : F.scope.isCoroutine = false := by with_unfolding_all rfl) (hgen : F.scope.isGenerator = false := by with_unfolding_all rfl) (hk : F.scope.kind = .function := by with_unfolding_all rfl) :
    ∀ avs s, VsRel C.X s.heap xs avs → Rel C H s → codeAny (model C.prog C.w) A (.call (.ref fa) ⟨avs, []⟩) (fun r s' => match r with | .ok _ => False | .error e => Fly C l Y H s e s') s := fun avs s ra R => by
  obtain ⟨cd, hD, hFn⟩ := hF s R
  obtain ⟨o, fd, ho, hd, e1, e2, e3, e4, e5, e6, e7, e8, e9, e10, hrec⟩ := hFn.ex
  have hlen := ra.length
  have hA : A.depth < recursionLimit := by have := hroom.depth; unfold recursionLimit; lia
  refine codeAny_call_function (body := body) hA ho hd (by rw [e4]; exact hco) (by rw [e4]; exact hgen) (by rw [e3]; exact hb) (by rw [e10, e1]; exact hrec) ?_
  have hpn : avs.length = (ln.take xs.length).length := by rw [List.length_take, Nat.min_eq_left i.le, hlen]
  rw [hbind fd avs e2 e8 e9 hpn, e4, e5, e6, e7, e1, e10]
  refine wpAny_pure (wpAny_newFunctionEnv hcell (fun x hx => hln x.1 ?_) (fun h' hns hsb => ?_) hk)
  · exact List.mem_of_mem_take (List.of_mem_zip hx).1
  · have ext : ∀ b o, s.heap.get? b = some o → h'.get? b = some o := fun b o e => hsb.extBut b o (Nat.ne_of_lt (Heap.lt_size e)) (Heap.get?_push_of_some _ e)
    refine ⟨(G.nolimit.keeps R.keep).keeps ext, ?_⟩
    show codeAny _ A (.func body (envF F s.heap.objs.size fa cd F.closure)) _ _
    have R' : Rel C ((s.heap.objs.size, .ns ln vals) :: H) { s with heap := h', toks := s.toks + ((ln.take xs.length).zip avs).length } :=
      R.add ext (Nat.le_refl _) ⟨nd, _, hns, ns_init nd i (ra.fz (fz_of_ext ext)) fun x zz v e => e⟩
    have k' : Kept H s ((s.heap.objs.size, .ns ln vals) :: H) { s with heap := h', toks := s.toks + ((ln.take xs.length).zip avs).length } := kept_add ext (Nat.le_refl _)
    refine codeAny_func (wpAny_mono (h _ _ hD _ R') (fun zz zz e => e.elim) fun e s₁ r => ?_)
    cases r with | mk e H₁ s₁ h'' y R₁ k₁ hx =>
    have K₁ : Stk (envF F s.heap.objs.size fa cd F.closure :: l) H₁ := fun env he => by
      rcases List.mem_cons.mp he with rfl | he
      · exact ⟨by show F.scope.kind ≠ .module; rw [hk]; decide, y.2.1.elim fun vs m => ⟨_, ln, vs, rfl, m⟩⟩
      · exact (K.to y.1) env he
    refine wpAny_leaves_madeW (base := hideAll s₁.heap (frs (envF F s.heap.objs.size fa cd F.closure :: l))) (Around.frames_deeper hfr) rfl (fun b o q => of_hideAll _ q)
      (funFrames_hide (Stk.fun R₁ K₁) fun env he b hb => List.mem_filterMap.mpr ⟨env, he, hb⟩) hx fun h₃ t x1 x2 x3 x4 => ?_
    exact ⟨e, t, H₁, s₁, _, h₃, y.2.2, R₁, k'.trans k₁, K₁, x1, (Heap.UpToSlots.of_keeps hx.keeps).trans x4, x2⟩
end
end
noncomputable section
section
variable {C : Cfg} {gl : List (Str × V)} {A : Around} {env : Env} {pos tpos : Pos} {H H' : AH} {l : List Env} {Y : AH → Prop} {α : Type} {Q : V → AH → Prop} {QF : Fl → AH → Prop} {QL : List V → AH → Prop} {L : Addr} {ln gn : List Str} {cn : List (Str × Addr)}
noncomputable def WPCR (C : Cfg) (A : Around) (l : List Env) (Y : AH → Prop) (f : V) (args : List V) (H : AH) : Prop :=
  ∀ fv avs s, VRel C.X s.heap f fv → VsRel C.X s.heap args avs → Rel C H s → KeepsOk (model C.prog C.w) A fv s ∧ wpAny (model C.prog C.w) A (call fv avs) (fun zz zz => False) (Fly C l Y H s) s
theorem wpcr_of_code {f : Addr} {args : List V} (hf : ∀ s, Rel C H s → ∃ o fd, s.heap.get? f = some o ∧ o.data = .func fd)
    (h : ∀ avs s, VsRel C.X s.heap args avs → Rel C H s → codeAny (model C.prog C.w) A (.call (.ref f) ⟨avs, []⟩) (fun r s' => match r with | .ok _ => False | .error e => Fly C l Y H s e s') s) : WPCR C A l Y (.ref f) args H := fun fv avs s rf ra R => by
  simp only [VRel] at rf; subst rf
  refine E22 (hf s R) fun o fd ho hd => ⟨⟨.frame, fun Q' q => ?_⟩, wpAny_call (codeAny_mono (h avs s ra R) fun r s' hr => ?_)⟩
  · unfold keeperOf
    refine wpAny_bind (wpAny_load ho ?_)
    rw [hd]
    exact wpAny_pure q
  · rcases r with e | _
    · exact hr
    · exact hr.elim
theorem wr_Call {x : Str} {np : Pos} {es : List Expr} (h : WP C A (VRel C.X) (eval (.Name x np) env) (fun f H₁ => WPG C A env pos es (fun xs H₂ => WPCR C A l Y f xs H₂) H₁) H) : WR C A l Y (eval (.Call (.Name x np) es [] pos) env) H := fun s R =>
  wpAny_Call_ofName (wpAny_mono (h s R) (fun fv s₁ p => Post.el p fun f H₁ q rf R₁ k => callWith_K q.1 (wpAny_mono (q.2 fv s₁ R₁) (fun a s₂ p => Post.el p fun xs H₂ q₂ ra R₂ k₂ => by
    have g := q₂ fv a.pos s₂ (rf.fz (k₂.fz R₁)) ra.2 R₂
    exact ⟨ra.1, g.1.elim fun kk hk => ⟨kk, fun Q q => wpAny_mono (hk Q q) (fun zz zz e => e) fun zz zz e => e.elim⟩, wpAny_mono g.2 (fun zz zz e => e.elim) fun zz zz f => f.pre (k.trans k₂)⟩) fun zz zz e => e.elim)) fun zz zz e => e.elim)
theorem wr_tuple1 {e : Expr} {es : List Expr} {k : Nat} (h : WR C A l Y (eval e env) H) (he : starEach (e :: es) env = (false, eval e env) :: starEach es env := by with_unfolding_all rfl) : WR C A l Y (eval (.Tuple (e :: es) k pos) env) H := fun s R =>
  wpAny_Tuple (wpAny_items_cons (he := he) (wpAny_mono (h s R) (fun zz zz e => e.elim) fun zz zz e => e))
theorem wr_tuple2 {e₀ e : Expr} {es : List Expr} {k : Nat} (h : WP C A (VRel C.X) (eval e₀ env) (fun zz H₁ => WR C A l Y (eval e env) H₁) H) (he₀ : starEach (e₀ :: e :: es) env = (false, eval e₀ env) :: starEach (e :: es) env := by with_unfolding_all rfl)
    (he : starEach (e :: es) env = (false, eval e env) :: starEach es env := by with_unfolding_all rfl) : WR C A l Y (eval (.Tuple (e₀ :: e :: es) k pos) env) H := fun s R =>
  wpAny_Tuple (wpAny_items_cons (he := he₀) (wpAny_mono (h s R) (fun v s₁ p => Post.el p fun x H₁ q rv R₁ k => wpAny_items_cons (he := he) (wpAny_mono (q s₁ R₁) (fun zz zz e => e.elim) fun zz zz f => f.pre k)) fun zz zz e => e.elim))
theorem wr_Assign {t value : Expr} (h : WR C A l Y (eval value env) H) (hs : swapsWithSole [t] value pos.line env = pure false := by with_unfolding_all rfl) : WR C A l Y (exec (.Assign [t] value pos) env) H := fun s R => by
  rw [exec_Assign]
  refine wpAny_bind (wpAny_standAt ?_)
  rw [hs]
  refine wpAny_bind (wpAny_pure ?_)
  rw [if_neg (by decide)]
  exact wpAny_bind (wpAny_mono (h s R) (fun zz zz e => e.elim) fun zz zz e => e)
theorem wr_Return {value : Expr} (h : WR C A l Y (eval value env) H) : WR C A l Y (exec (.Return (some value) pos) env) H := fun s R => by
  rw [arm_exec_Return]
  first
    | exact wpAny_bind (wpAny_standAt (wpAny_bind (wpAny_mono (h s R) (fun zz zz e => e.elim) fun zz zz e => e)))
    | exact wpAny_bind (wpAny_mono (h s R) (fun zz zz e => e.elim) fun zz zz e => e)
theorem wr_cons {st : Stmt} {rest : List Stmt} (h : WR C A l Y (exec st env) H) : WR C A l Y (execs (st :: rest) env) H := fun s R =>
  wpAny_execs_cons (wpAny_mono (h s R) (fun zz zz e => e.elim) fun zz zz e => e)
theorem glob_same {x : Str} {u : V} {np : Pos} {s : Shared} {P : Value → Shared → Prop} {E : Value → Shared → Prop} (G : C.Ok gl) (FE : FEnv env L ln cn gn) (hg : (x, u) ∈ gl) (hx : x ∈ gn) (R : Rel C H s) (h : ∀ v, VRel C.X s.heap u v → P v s) :
    wpAny (model C.prog C.w) A (eval (.Name x np) env) P E s := by
  refine E12 (G.gl _ hg) fun w rw hw => ?_
  have rw' := rw.fz (fz_of_keep R.keep)
  refine Name_function_global FE.kind (FE.hg x hx).1 ?_ (FE.hg x hx).2
  have hG : s.heap.Ns env.globals C.mg := by rw [FE.glob]; exact G.g.keeps R.keep
  have hB : s.heap.Ns env.builtins C.mb := by rw [FE.blt]; exact G.b.keeps R.keep
  exact hw.elim (fun hw => loadGlobal_global hG hw (h _ rw')) fun hw => loadGlobal_builtin hG hw.1 hB hw.2 (h _ rw')
theorem zde_exc : isSubtype zde (.type "BaseException") = pure true := by rw [isSubtype_type]; kernel_rfl
theorem zde_nt : isSubtype (.type ((Manifest.find? "ZeroDivisionError").elim "type" fun x => x.metatype)) (.type "tuple") = pure false := by rw [isSubtype_type]; kernel_rfl
theorem zde_self : isSubtype zde zde = pure true := by rw [isSubtype_type]; kernel_rfl
theorem wp1_Try_raised {body suite : List Stmt} {b₀ : Stmt} {x : Str} {np hpos : Pos} {Lf : Addr} (FE : FEnv env L ln cn gn) (G : C.Ok gl) (hfr : A.frames = some (env :: l)) (hf : env.frame = some Lf) (hg : (x, V.ty "ZeroDivisionError") ∈ gl) (hx : x ∈ gn)
    (h : WR C A (env :: l) Y (execs body env) H) (k : ∀ e H₁, Y H₁ → WPS C (A.mark (some (.ref e))) env (b₀ :: suite) QF H₁) :
    WP1 C A env (.Try body [.ExceptHandler (some (.Name x np)) none (b₀ :: suite) hpos] [] [] pos) QF H := fun s R => by
  refine wpAny_Try_except (wpAny_mono (h s R) (fun zz zz e => e.elim) fun e s₁ f => ?_)
  cases f with | mk e t H₁ s₁ l₁ h' y R₁ k₁ K fl u ta =>
  refine wpAny_looks_onW hfr hf fl fun h₄ hheld₄ hsm₄ => ?_
  refine wpAny_landsW hheld₄ fun h₅ hheld hsm₅ => ?_
  refine E12 hheld.there fun ob hob hobc => ?_
  have R₅ := R₁.slots (t := s₁.toks) K hheld.1 ((u.trans hsm₄).trans hsm₅)
  refine wpAny_handleBy_builtin (X := "ZeroDivisionError") (T := "ZeroDivisionError") (b := true) zde_exc zde_nt zde_self (glob_same G FE hg hx R₅.1 fun v rv => ⟨by simpa only [VRel] using rv, ⟨ob, hob, hobc⟩, ?_⟩)
  refine lands_againW hheld fun h₆ hfl₆ hsm₆ => ?_
  have R₆ := R₁.slots (t := s₁.toks) K hfl₆.1 (((u.trans hsm₄).trans hsm₅).trans hsm₆)
  exact wpAny_mono (k e H₁ y _ R₆.1) (fun f s₂ p => post_then (k₁.trans R₆.2) p) fun zz zz e => e.elim
theorem wp1_Try_ok {body : List Stmt} {hd : ExceptHandler} {hs : List ExceptHandler} (h : WPS C A env body QF H) : WP1 C A env (.Try body (hd :: hs) [] [] pos) QF H := fun s R =>
  wpAny_Try_except (wpAny_mono (h s R) (fun f s₁ p => Post.el p fun fl H₁ q rf R₁ k => by
    cases fl with
    | next => cases rf; exact wpAny_execs_nil ⟨.next, H₁, q, rfl, R₁, k⟩
    | cont => cases rf; exact ⟨.cont, H₁, q, rfl, R₁, k⟩
    | brk => cases rf; exact ⟨.brk, H₁, q, rfl, R₁, k⟩
    | ret u => exact E12 rf fun w e rw => e ▸ ⟨.ret u, H₁, q, ⟨w, rfl, rw⟩, R₁, k⟩) fun zz zz e => e.elim)
end
end
noncomputable section
section
variable {C : Cfg} {gl : List (Str × V)} {A : Around} {H H' : AH} {Q : V → AH → Prop} {l : List Env} {Y : AH → Prop}
theorem call_okF {fa : Addr} {F : FnA} {D : Value → Prop} {pn ln gn fn : List Str} {xs : List V} {vals : List (Option V)} {body : List Stmt} {n : Nat} (O : FnOk F pn ln gn [] fn)
    (G : C.Ok gl) (hF : ∀ s, Rel C H s → ∃ cd, D cd ∧ FnAt s.heap fa F cd) (hroom : Room A (n + 1)) (hfr : A.frames = some l) (hb : F.body = .stmts body) (hp : ln.take xs.length = pn) (i : Init ln xs vals) {cl : List (Str × Addr)} (hcl : F.closure = cl) (hclo : cl.map (·.1) = fn)
    (h : ∀ L cd A' env, Room A' n → A'.frames = some (env :: l) → env.frame = some L → env.scope.kind ≠ .module → D cd → FEnv env L ln cl gn → env = envF F L fa cd F.closure → WPS C A' env body (fun fl H₁ => ∃ H₂, Sub H₂ H₁ ∧ Q fl.val H₂) ((L, .ns ln vals) :: H)) :
    WPC C A (.ref fa) xs Q H :=
  WPC.of_code (fun s R => (hF s R).elim fun cd p => p.2.ex.elim fun o p => p.elim fun fd q => ⟨o, fd, q.get, q.dat⟩)
    (code_fn G hF hroom hb (hp ▸ O.binds) (fun x hx => (O.hl x hx).1) O.nd (fun x hx e => nomatch O.allc x hx e) i (fun L cd hD => h L cd _ _ (hroom.deeper _) (Around.frames_deeper hfr) rfl (by show F.scope.kind ≠ _; rw [O.kind]; decide) hD (hcl ▸ O.env L fa cd (hcl.symm ▸ hclo)) rfl) O.co O.gen O.kind)
theorem call_okEF {fa : Addr} {F : FnA} {D : Value → Prop} {pn ln gn fn : List Str} {xs : List V} {vals : List (Option V)} {body : Expr} {n : Nat} (O : FnOk F pn ln gn [] fn)
    (G : C.Ok gl) (hF : ∀ s, Rel C H s → ∃ cd, D cd ∧ FnAt s.heap fa F cd) (hroom : Room A (n + 1)) (hfr : A.frames = some l) (hb : F.body = .expr body) (hp : ln.take xs.length = pn) (i : Init ln xs vals) {cl : List (Str × Addr)} (hcl : F.closure = cl) (hclo : cl.map (·.1) = fn)
    (h : ∀ L cd A' env, Room A' n → A'.frames = some (env :: l) → env.frame = some L → env.scope.kind ≠ .module → D cd → FEnv env L ln cl gn → env = envF F L fa cd F.closure → WP C A' (VRel C.X) (eval body env) (fun v H₁ => ∃ H₂, Sub H₂ H₁ ∧ Q v H₂) ((L, .ns ln vals) :: H)) :
    WPC C A (.ref fa) xs Q H :=
  call_fnE G hF hroom hb (hp ▸ O.binds) (fun x hx => (O.hl x hx).1) O.nd (fun x hx e => nomatch O.allc x hx e) i (fun L cd hD => h L cd _ _ (hroom.deeper _) (Around.frames_deeper hfr) rfl (by show F.scope.kind ≠ _; rw [O.kind]; decide) hD (hcl ▸ O.env L fa cd (hcl.symm ▸ hclo)) rfl) O.co O.gen O.kind
theorem raise_ok {fa : Addr} {F : FnA} {D : Value → Prop} {pn ln gn fn : List Str} {xs : List V} {vals : List (Option V)} {body : List Stmt} {n : Nat} (O : FnOk F pn ln gn [] fn)
    (G : C.Ok gl) (hF : ∀ s, Rel C H s → ∃ cd, D cd ∧ FnAt s.heap fa F cd) (hroom : Room A (n + 1)) (hfr : A.frames = some l) (K : Stk l H) (hb : F.body = .stmts body) (hp : ln.take xs.length = pn) (i : Init ln xs vals) {cl : List (Str × Addr)} (hcl : F.closure = cl) (hclo : cl.map (·.1) = fn)
    (h : ∀ L cd A' env, Room A' n → D cd → FEnv env L ln cl gn → WX C A' (fun H₁ => (∀ p ∈ H, p ∈ H₁) ∧ (∃ vs, (L, .ns ln vs) ∈ H₁) ∧ Y H₁) (execs body env) ((L, .ns ln vals) :: H)) :
    WPCR C A l Y (.ref fa) xs H :=
  wpcr_of_code (fun s R => (hF s R).elim fun cd p => p.2.ex.elim fun o p => p.elim fun fd q => ⟨o, fd, q.get, q.dat⟩)
    (raise_fn G hF hroom hb (hp ▸ O.binds) (fun x hx => (O.hl x hx).1) O.nd (fun x hx e => nomatch O.allc x hx e) i hfr K (fun L cd hD => h L cd _ _ (hroom.deeper _) hD (hcl ▸ O.env L fa cd (hcl.symm ▸ hclo))) O.co O.gen O.kind)
theorem wp1_Try_raisedS {env : Env} {pos : Pos} {QF : Fl → AH → Prop} {L : Addr} {ln gn : List Str} {cn : List (Str × Addr)} {body suite : List Stmt} {b₀ : Stmt} {x : Str} {np hpos : Pos} {Lf : Addr} (FE : FEnv env L ln cn gn) (G : C.Ok gl) (hfr : A.frames = some (env :: l)) (hf : env.frame = some Lf) (hg : (x, V.ty "ZeroDivisionError") ∈ gl) (hx : x ∈ gn)
    (h : WR C A (env :: l) (fun H₁ => Sub H H₁) (execs body env) H) (k : ∀ e, WPS C (A.mark (some (.ref e))) env (b₀ :: suite) QF H) :
    WP1 C A env (.Try body [.ExceptHandler (some (.Name x np)) none (b₀ :: suite) hpos] [] [] pos) QF H := wp1_Try_raised FE G hfr hf hg hx h fun e H₁ y => WP.sub y (k e)
theorem noswapT {env : Env} {a b vs : List Expr} {k k1 k2 k' : Nat} {p p1 p2 p' : Pos} : swappedStores [.Tuple [.Tuple a k1 p1, .Tuple b k2 p2] k p] (.Tuple vs k' p') env = pure none := by
  unfold swappedStores
  dsimp only
  split
  · rfl
  split
  · rfl
  rfl
theorem noswapN {env : Env} {x : Str} {b vs : List Expr} {k k2 k' : Nat} {p p1 p2 p' : Pos} : swappedStores [.Tuple [.Name x p1, .Tuple b k2 p2] k p] (.Tuple vs k' p') env = pure none := by
  unfold swappedStores
  dsimp only
  split
  · rfl
  split
  · rfl
  generalize hL : List.filterMap _ _ = l
  have hl : l.length ≤ 1 := by
    rw [← hL, List.filterMap_cons]
    split
    · simp
    · simp
  rw [if_pos (by simp; left; lia)]
theorem noswapS {env : Env} {a b c d : Expr} {vs : List Expr} {k k' : Nat} {p p1 p2 p' : Pos} : swappedStores [.Tuple [.Subscript a b p1, .Subscript c d p2] k p] (.Tuple vs k' p') env = pure none := by
  unfold swappedStores
  dsimp only
  split
  · rfl
  split
  · rfl
  rfl
theorem Stk.cons {env : Env} {L : Addr} {ns : List Str} {vals : List (Option V)} (K : Stk l H) (hk : env.scope.kind ≠ .module) (hf : env.frame = some L) : Stk (env :: l) ((L, .ns ns vals) :: H) := fun e he => by
  rcases List.mem_cons.mp he with rfl | he
  · exact ⟨hk, L, ns, vals, hf, .head _⟩
  · exact (K.to fun p h => .tail _ h) e he
end
end
noncomputable section
section
variable {prog : Program} {w : World} {A : Around} {E : Value → Shared → Prop} {s : Shared}
theorem draw_list {it l : Addr} {items : Array Value} (hne : l ≠ it) : ∀ (n i : Nat) (s : Shared) (Q : List Value → Shared → Prop), s.heap.IsListIter it l i → s.heap.IsList l items → i + n ≤ items.size →
    (∀ h', h'.IsListIter it l (i + n) → Heap.SameBut it s.heap h' → Q ((items.toList.drop i).take n) { s with heap := h' }) → wpAny (model prog w) A (draw (.ref it) n) Q E s
  | 0, i, s, Q, hit, _, _, hQ => by
    show wpAny _ _ (pure []) Q E s
    exact wpAny_pure (by simpa using hQ s.heap hit (Heap.SameBut.refl ..))
  | n + 1, i, s, Q, hit, ht, hle, hQ => by
    have hlt : i < items.size := by exact Nat.lt_of_add_right_lt hle
    show wpAny _ _ (pyNext (.ref it) >>= _) Q E s
    refine wpAny_bind (wpAny_pyNext_list_item hit ht (x := items[i]) (by simp [hlt]) fun h₁ hit₁ hs₁ => ?_)
    refine wpAny_bind (wpAny_holding (draw_list hne n (i + 1) _ _ hit₁ (ht.extBut hs₁.extBut hne) (by lia) fun h₂ hit₂ hs₂ => wpAny_pure ?_))
    have hd : items.toList.drop i = items[i] :: items.toList.drop (i + 1) := by simp [List.drop_eq_getElem_cons, hlt]
    have := hQ h₂ (by rw [show i + (n + 1) = i + 1 + n by exact Eq.symm (Nat.succ_add_eq_add_succ i n)]; exact hit₂) (hs₁.trans hs₂)
    rw [hd, List.take_succ_cons] at this
    exact this
theorem unpack_list {l : Addr} {items : Array Value} {targets : List (Bool × (Value → Sem Unit))} {Q : Unit → Shared → Prop} (hh : A.handled = none) (ht : s.heap.IsList l items)
    (hn : targets.length = items.size) (hstar : targets.findIdx? (·.1) = none)
    (h : ∀ h', Heap.ExtBut s.heap.objs.size s.heap h' → wpAny (model prog w) A (assignInOrder (targets.map (·.2)) items.toList) Q E { s with heap := h' }) :
    wpAny (model prog w) A (unpack (.ref l) targets) Q E s := by
  have hlt : l ≠ s.heap.objs.size := by obtain ⟨o, ho, _⟩ := ht; exact Nat.ne_of_lt (Heap.lt_size ho)
  unfold unpack
  rw [hn, hstar]
  refine wpAny_bind (wpAny_holding ?_)
  unfold unpackItems
  refine wpAny_bind ?_
  unfold notIterableAtAll
  refine wpAny_bind (wpAny_specialOf ht.typeIs slot_list_iter.lookup ?_)
  refine wpAny_pure ?_
  simp only [Bool.false_eq_true, if_false]
  refine wpAny_bind (wpAny_holding (wpAny_pyIter_list ht ?_))
  have ht₀ : (s.heap.push { cls := .type "list_iterator", data := .fields #[.ref l, .int 0 0] }).IsList l items := by
    obtain ⟨o, ho, hc⟩ := ht; exact ⟨o, Heap.get?_push_of_some _ ho, hc⟩
  refine wpAny_bind (wpAny_holding (draw_list hlt items.size 0 _ _ ⟨_, Heap.get?_push_size _ rfl, rfl, rfl⟩ ht₀ (by lia) fun h₁ hit₁ hs₁ => ?_))
  have hall : List.take items.size (List.drop 0 items.toList) = items.toList := by
    rw [List.drop_zero]; exact List.take_of_length_le (by simp)
  rw [hall]
  rw [if_neg (by simp)]
  have ht₁ : h₁.IsList l items := ht₀.extBut hs₁.extBut hlt
  refine wpAny_bind (wpAny_holding (wpAny_pyNext_list_end hh hit₁ ht₁ (by simp) fun h₂ he₂ => ?_))
  simp only [Option.isSome_none, Bool.false_eq_true, if_false]
  exact wpAny_pure (h _ fun b o hb e => he₂ b o hb (hs₁.extBut b o hb (Heap.get?_push_of_some _ e)))
end
section
variable {C : Cfg} {gl : List (Str × V)} {A : Around} {env : Env} {pos tpos : Pos} {H H' : AH} {l : List Env} {Y : AH → Prop} {Q : V → AH → Prop} {QF : Fl → AH → Prop} {QU : Unit → AH → Prop} {L : Addr} {ln gn : List Str} {cn : List (Str × Addr)}
theorem asg_TupleL {elts : List Expr} {k : Nat} {ll : Addr} {vs : List V} (hA : A.handled = none) (hl : (ll, AO.list vs) ∈ H) (h : WPAs C A ((assignEach elts env).map (·.2)) vs QU H)
    (hn : (assignEach elts env).length = vs.length := by with_unfolding_all rfl) (hstar : (assignEach elts env).findIdx? (·.1) = none := by with_unfolding_all rfl) : WPA C A env (.Tuple elts k pos) (.ref ll) QU H := fun w s r R => by
  simp only [VRel] at r; subst r
  obtain ⟨items, pl, rvs⟩ := R.objs _ hl
  have hz := rvs.length
  rw [assign_Tuple]
  refine wpAny_bind (wpAny_standAt (unpack_list hA (PlainList.isList pl) (by rw [hn, ← hz]; simp) hstar fun h' he => ?_))
  have ext : ∀ b o, s.heap.get? b = some o → h'.get? b = some o := fun b o e => he b o (Nat.ne_of_lt (Heap.lt_size e)) e
  exact wpAny_mono (h _ { s with heap := h' } (rvs.fz (fz_of_ext ext)) (R.ext (t := s.toks) ext)) (fun zz zz p => post_then (kept_of_ext (t := s.toks) ext) p) fun zz zz x => x
theorem ret_str {s : Shared} {e t : Addr} {n : Str} {vals : List (Option V)} {sp p2 cpos rpos : Pos} (FE : FEnv env L ln cn gn) (G : C.Ok gl) (hg2 : (("str" : Str), V.ty "str") ∈ gl) (hx2 : ("str" : Str) ∈ gn) (hu : A.units + 64 < cLine) (R : Rel C H s)
    (hL : (L, AO.ns ln vals) ∈ H) (ha : At ln vals n (.ref e)) (xe : s.heap.ExcAt e "ZeroDivisionError" (.ref t)) (xt : s.heap.TupAt t []) (ne : e ∉ keys H) (nt : t ∉ keys H) :
    wpAny (model C.prog C.w) A (execs [.Return (some (.Call (.Name "str" sp) [.Name n p2] [] cpos)) rpos] env) (fun f s' => (∃ tk, f = .ret (.str Str.empty tk)) ∧ Rel C H s' ∧ Kept H s H s') NoE s := by
  refine wpAny_execs_cons (wpAny_Return_some ?_)
  refine wpAny_Call_ofName (glob_same G FE hg2 hx2 R fun fv rf => ?_)
  have hw : WPG C A env cpos [.Name n p2] (fun xs H₁ => xs = [.ref e] ∧ H₁ = H) H := wpg_cons (wpl_cons (wp_local FE hL ha (wpl_nil ⟨rfl, rfl⟩)))
  refine callWith_K hw.1 (wpAny_mono (hw.2 fv s R) (fun a s₁ p => Post.el p fun xs H₁ q ra R₁ k => ?_) fun zz zz e => e)
  obtain ⟨rfl, rfl⟩ := q
  obtain rfl : fv = .type "str" := by simpa only [VRel] using rf
  have ha' : a.pos = [.ref e] := by
    obtain ⟨v, hv, rv⟩ := rel1 ra.2
    simp only [VRel] at rv; subst rv; exact hv
  refine ⟨ra.1, keeps_nr fun zz e => (nomatch e), ?_⟩
  rw [ha']
  have xe' : s₁.heap.ExcAt e "ZeroDivisionError" (.ref t) := let ⟨o, vs, h1, h2⟩ := xe; ⟨o, vs, (k e o ne h1).1, h2⟩
  have xt' : s₁.heap.TupAt t [] := let ⟨o, m, h1, h2⟩ := xt; ⟨o, m, (k t o nt h1).1, h2⟩
  refine PySem.P.str_of_exc_none PySem.F.excStr_ZeroDivisionError (Nat.lt_of_le_of_lt (Nat.add_le_add_left (by decide) _) hu) xe' xt' ?_
  have ext : ∀ b o, s₁.heap.get? b = some o → s₁.heap.get? b = some o := fun b o e => e
  exact ⟨⟨_, rfl⟩, R₁.ext (t := s₁.toks + 1) ext, k.trans (kept_of_ext (t := s₁.toks + 1) ext)⟩
theorem wp1_Try_str {body : List Stmt} {x n : Str} {np sp p2 cpos rpos hpos : Pos} {H₀ : AH} {vals : List (Option V)} {vals1 : Addr → List (Option V)} (FE : FEnv env L ln cn gn) (G : C.Ok gl) (hfr : A.frames = some (env :: l)) (hf : env.frame = some L) (hg : (x, V.ty "ZeroDivisionError") ∈ gl) (hx : x ∈ gn)
    (hg2 : (("str" : Str), V.ty "str") ∈ gl) (hx2 : ("str" : Str) ∈ gn) (hu : A.units + 64 < cLine) (hput : ∀ e, Put ln vals n (.ref e) (vals1 e)) (hat : ∀ e, At ln (vals1 e) n (.ref e))
    (hback : ∀ {h : Heap} {m m' : Str → Option Value} {e}, NsRel C.X h m ln (vals1 e) → (∀ y, y ≠ n → m' y = m y) → NsRel C.X h m' ln vals)
    (h : WR C A (env :: l) (fun H₁ => Sub ((L, .ns ln vals) :: H₀) H₁) (execs body env) ((L, .ns ln vals) :: H₀)) (q : QF (.ret (.str "")) ((L, .ns ln vals) :: H₀)) :
    WP1 C A env (.Try body [.ExceptHandler (some (.Name x np)) (some n) [.Return (some (.Call (.Name "str" sp) [.Name n p2] [] cpos)) rpos] hpos] [] [] pos) QF ((L, .ns ln vals) :: H₀) := fun s R => by
  refine wpAny_Try_except (wpAny_mono (h s R) (fun zz zz e => e.elim) fun e s₁ f => ?_)
  cases f with | mk e t H₁ s₁ l₁ h' y R₁ k₁ K fl u ta =>
  refine wpAny_looks_onW hfr hf fl fun h₄ hheld₄ hsm₄ => ?_
  refine wpAny_landsW hheld₄ fun h₅ hheld hsm₅ => ?_
  refine E12 hheld.there fun ob hob hobc => ?_
  have R₅ := R₁.slots (t := s₁.toks) K hheld.1 ((u.trans hsm₄).trans hsm₅)
  refine wpAny_handleBy_builtin_as (X := "ZeroDivisionError") (T := "ZeroDivisionError") (b := true) zde_exc zde_nt zde_self (glob_same G FE hg hx R₅.1 fun v rv => ⟨by simpa only [VRel] using rv, ⟨ob, hob, hobc⟩, ?_⟩)
  refine lands_againW hheld fun h₆ hfl₆ hsm₆ => ?_
  have u6 := ((u.trans hsm₄).trans hsm₅).trans hsm₆
  have R₆ := R₁.slots (t := s₁.toks) K hfl₆.1 u6
  have t6 : h₆.TupAt t [] := ((ta.of_slots hsm₄).of_slots hsm₅).of_slots hsm₆
  have x6 : h₆.ExcAt e "ZeroDivisionError" (.ref t) := hfl₆.first
  have ne1 : e ∉ keys H₁ := fun he => by
    by_cases q : e ∈ frs l₁
    · obtain ⟨ns, vs, m⟩ := K.ns q
      obtain ⟨_, mm, ⟨o, es, ep, ho, hd, _⟩, _⟩ := R₁.objs _ m
      obtain ⟨sl, h6⟩ := u6 e o ho fun vs q => by rw [hd] at q; cases q
      obtain ⟨o', vs', h6', _, hd', _⟩ := x6
      rw [h6] at h6'; cases h6'
      rw [show ({ o with slots := sl } : Obj).data = o.data from rfl, hd] at hd'; cases hd'
    · obtain ⟨p, hp, rfl⟩ := List.mem_map.mp he
      obtain ⟨o, ho, _⟩ := (R₁.objs p hp).live
      have hn := hfl₆.2.1
      rw [hideAll_get _ ho q] at hn; cases hn
  have nt1 : t ∉ keys H₁ := by
    obtain ⟨o, m, ho, hc, hd⟩ := t6
    by_cases hX : t ∈ C.X
    · exact (R₆.1.xl t hX).1
    · exact R₆.1.notin ho (.inl ⟨hX, hc, _, _, hd⟩)
  have R6 := R₆.1.sub y
  have k6 : Kept ((L, AO.ns ln vals) :: H₀) s ((L, AO.ns ln vals) :: H₀) { s₁ with heap := h₆ } := Kept.sub (k₁.trans R₆.2) y
  have sk : ∀ b, b ∉ keys H₁ → b ∉ keys ((L, AO.ns ln vals) :: H₀) := fun b hb => (Kept.sub (Kept.refl H₁ { s₁ with heap := h₆ }) y b · hb · |>.2) |> fun f => by
    intro hin
    obtain ⟨p, hp, rfl⟩ := List.mem_map.mp hin
    obtain ⟨o, ho, _⟩ := (R6.objs p hp).live
    exact f o ho hin
  refine wpAny_mono (store_local FE (H := (L, .ns ln vals) :: H₀) (QU := fun zz H' => H' = (L, .ns ln (vals1 e)) :: H₀) .head (hput e) rfl (.ref e) { s₁ with heap := h₆ } (by simp only [VRel]) R6) (fun zz s₃ p => Post.el p fun zz H₃ q3 zz R₃ k₃ => ?_) fun zz zz e => e.elim
  subst q3
  have k6e := k₃ e
  have x3 : s₃.heap.ExcAt e "ZeroDivisionError" (.ref t) := let ⟨o, vs, h1, h2⟩ := x6; ⟨o, vs, (k₃ e o (sk _ ne1) h1).1, h2⟩
  have t3 : s₃.heap.TupAt t [] := let ⟨o, m, h1, h2⟩ := t6; ⟨o, m, (k₃ t o (sk _ nt1) h1).1, h2⟩
  have hkeys : keys ((L, AO.ns ln (vals1 e)) :: H₀) = keys ((L, AO.ns ln vals) :: H₀) := rfl
  refine wpAny_mono (ret_str (A := A.mark (some (.ref e))) FE G hg2 hx2 hu R₃ (.head _) (hat e) x3 t3 (hkeys ▸ sk _ ne1) (hkeys ▸ sk _ nt1)) (fun f s₄ p => ?_) fun zz zz e => e.elim
  obtain ⟨⟨tk, rfl⟩, R₄, k₄⟩ := p
  obtain ⟨nd, m, hn, hr⟩ := R₄.objs _ (.head _)
  obtain ⟨h1, h2⟩ := FE.hl n (hput e).mem
  have hLk : L ∈ keys ((L, AO.ns ln (vals1 e)) :: H₀) := .head _
  refine wpAny_bind (wpAny_bindName (wpAny_storeName_local h1 (FE.loc ▸ hn) (fun h7 hn7 hs7 => ?_) (by rw [FE.kind]; rfl)))
  rw [FE.loc] at hn7 hs7
  unfold unbindBehindTheSuite
  refine wpAny_onRaise (wpAny_mono (wpAny_unbindName_local (v := .none) h1 (FE.loc ▸ hn7) (by simp) (by rw [FE.kind]; rfl) (Q := fun zz s' => Post C (FRel C.X) QF _ s (.ret (.str Str.empty tk)) s') fun h8 w8 hn8 hs8 => ?_) (fun zz zz p => p) fun zz zz e => e)
  rw [FE.loc] at hn8 hs8
  have hs := hs7.trans hs8
  have hf : Fz C.X s₄.heap h8 := fun a o e f => hs.extBut a o (fun q => R₄.notin e f (q ▸ hLk)) e
  obtain ⟨R', k'⟩ := R₄.upd (.head : Upd L (.ns ln (vals1 e)) (.ns ln vals) _ ((L, .ns ln vals) :: H₀)) (h' := h8) (t := s₄.toks + 1) (fun b o n e => hs.extBut b o n e) ⟨nd, _, hn8, hback (hr.fz hf) fun y hy => by simp [hy]⟩
  exact ⟨.ret (.str ""), _, q, ⟨_, rfl, by simp only [VRel]; exact ⟨_, rfl⟩⟩, R', ((k6.trans k₃).trans k₄).trans k'⟩
end
end
noncomputable section
section
variable {C : Cfg} {A : Around} {target : Expr} {H : AH} {QI : Cfg → (Nat → AH → Option V → Prop) → AH → Prop} {Q : V → AH → Prop}
noncomputable abbrev tupItem (vs : List V) := fnItem vs.length fun i => vs.getD i .none
theorem src_tup {I T : Addr} {vs : List V} (hA : A.handled = none) (hne : T ≠ I) (hX : T ∉ C.X) :
    Src C A target (.ref I) [I] [I] (fun i h => i ≤ vs.length ∧ h.IsTupleIter I T i ∧ ∃ items, h.IsTuple T items ∧ VsRel C.X h vs items.toList) (tupItem vs) where
  sub := fun b h => h
  nofz := fun i h ⟨_, ⟨o, e, c, _⟩, _⟩ b hb o' e' => by
    rw [List.mem_singleton.mp hb, e] at e'; cases e'; exact notFrozen_cls c (by decide) (by decide)
  live := fun i h ⟨_, ⟨o, e, _⟩, _⟩ b hb => ⟨o, by rw [List.mem_singleton.mp hb]; exact e⟩
  frame := fun i h h' ⟨hi, ⟨o, e, r⟩, items, ⟨ot, et, ct, n, dt⟩, rv⟩ fz k => ⟨hi, ⟨o, k I (.head _) o e, r⟩, items, ⟨ot, fz T ot et (.inl ⟨hX, ct, _, _, dt⟩), ct, n, dt⟩, rv.fz fz⟩
  self := fun i s ⟨_, hit, _⟩ => wpAny_pyIter_tupleiter hit ⟨rfl, rfl⟩
  item := fun i H s x ⟨hi, hit, items, ht, rv⟩ R hf hx => by
    have hlt : i < vs.length := Nat.lt_of_not_le fun q => by rw [tupItem, fnItem, if_neg (by exact Nat.not_lt.mpr q)] at hx; cases hx
    rw [tupItem, fnItem, if_pos hlt] at hx; cases hx
    have hg : vs[i]? = some (vs.getD i .none) := by rw [List.getD_eq_getElem?_getD, List.getElem?_eq_getElem hlt]; rfl
    obtain ⟨v, hv, rx⟩ := rv.get hg
    refine wpAny_pyNext_tuple_item hit ht (by simpa using hv) fun h' hit' hs' => ⟨v, rfl, ?_⟩
    have fz : Fz C.X s.heap h' := fun a o e f => hs'.extBut a o (fun q => by
      obtain ⟨o', e', c, _⟩ := hit
      rw [q, e'] at e; cases e
      exact notFrozen_cls c (by decide) (by decide) f) e
    obtain ⟨o, ho, hc, hd⟩ := id hit'
    refine letGo_skip (s := { s with heap := h' }) ho hc hd (by decide) ⟨h', s.toks, rfl, rx.fz fz, ⟨hlt, hit', items, ht.extBut hs'.extBut hne, rv.fz fz⟩, fun b o n e => hs'.extBut b o (fun q => n (by simp [q])) e⟩
  done := fun i H s ⟨hi, hit, items, ht, rv⟩ R hf hx => by
    have hge : ¬ i < vs.length := fun q => by rw [tupItem, fnItem, if_pos q] at hx; cases hx
    have hz := rv.length
    exact wpAny_pyNext_tuple_end hA hit ht (by rw [Array.getElem?_eq_none_iff, ← Array.length_toList, hz]; exact Nat.le_of_not_lt hge) fun h' hs' => ⟨rfl, h', s.toks, rfl, fun b o n e => hs' b o (fun q => n (by simp [q])) e⟩
theorem pi_tup {vs : List V} (hA : A.handled = none) (q : QI C (tupItem vs) H) : PI C A target (.tup vs) QI H := fun v s rv R => by
  simp only [VRel] at rv
  obtain ⟨T, items, rfl, hX, ht, rvs⟩ := rv
  have hlt : T ≠ s.heap.objs.size := by obtain ⟨o, ho, _⟩ := ht; exact Nat.ne_of_lt (Heap.lt_size ho)
  refine wpAny_pyIter_tuple ht ?_
  have ext : ∀ b o, s.heap.get? b = some o → (s.heap.push { cls := .type "tuple_iterator", data := .fields #[.ref T, .int 0 0] }).get? b = some o := fun b o e => Heap.get?_push_of_some _ e
  exact itPost_one (tk := s.toks) R (fun zz zz e => e) (Nat.le_refl _) (src_tup hA hlt hX) ⟨Nat.zero_le _, ⟨_, Heap.get?_push_size _ rfl, rfl, rfl⟩, items, ht.push _, rvs.fz (fz_of_ext ext)⟩ q
theorem gi_tup {vs : List V} {i : Int} {v : V} (h0 : 0 ≤ i) (hx : vs[i.toNat]? = some v) (hz : vs.length ≤ 1000000) (q : Q v H) : GI C A (.tup vs) (.int i) Q H := fun o iv s ro ri R => by
  simp only [VRel] at ro ri
  obtain ⟨T, items, rfl, hX, ht, rvs⟩ := ro
  obtain ⟨t, rfl⟩ := ri
  obtain ⟨w, hw, rw⟩ := rvs.get hx
  have hlt := (List.getElem?_eq_some_iff.mp hx).1
  have hz := rvs.length
  exact ⟨_, _, slot_tuple_getitem.lookup, ht.typeIs, PyProof.Rows.getItem_tuple ht (by lia) (by lia) (j := i.toNat) (by
    unfold seqIndex?
    rw [← Array.length_toList, hz]
    have e : ((i.toNat : Nat) : Int) = i := Int.toNat_of_nonneg h0
    simp [show ¬ i < 0 by exact Int.not_lt_of_ge h0, show i < vs.length by exact (Int.toNat_lt h0).mp hlt]) (by simpa using hw) (post_id R rw q)⟩
end
section
variable {C C' : Cfg} {A : Around} {cenv : Env} {cn' : List (Str × Addr)} {gn' : List Str} {H : AH} {c a : Addr} {elt : Expr}
theorem turns_new2 {y z : Str} {py pz pt : Pos} {k : Nat} {xs : List (V × V)} {vss : List (List V)} {Item : Nat → AH → Option V → Prop} {Fin : List V → AH → Prop} (FE : FEnv cenv c [y, z] cn' gn') (hA : A.handled = none) (hl : vss.length = xs.length) (hz : xs.length ≤ 100000)
    (hI : ∀ (i : Nat) x os acc G, (∀ p ∈ H, p ∈ G) → xs[i]? = some x → Item i ((c, .ns [y, z] os) :: (a, .list acc) :: G) (some (.tup [x.1, x.2]))) (hN : ∀ os acc G, (∀ p ∈ H, p ∈ G) → Item xs.length ((c, .ns [y, z] os) :: (a, .list acc) :: G) none)
    (he : ∀ (i : Nat) x vs acc G, (∀ p ∈ H, p ∈ G) → xs[i]? = some x → vss[i]? = some vs → WP C' A (VRel C'.X) (eval elt cenv) (fun u H₄ => ∃ r, u = .ref r ∧ Sub ((c, .ns [y, z] [some x.1, some x.2]) :: (a, .list acc) :: (r, .list vs) :: G) H₄) ((c, .ns [y, z] [some x.1, some x.2]) :: (a, .list acc) :: G))
    (hf : ∀ os rs, rs.length = vss.length → Fin (rs.map V.ref) ((c, .ns [y, z] os) :: (a, .list (rs.map V.ref)) :: (nls rs vss ++ H))) : CompTurns C C' A cenv (.Tuple [.Name y py, .Name z pz] k pt) [] elt a Item Fin ((c, .ns [y, z] [none, none]) :: (a, .list []) :: H) := by
  refine ⟨fun i acc H₁ => ∃ rs o o', rs.length = i ∧ acc = rs.map V.ref ∧ H₁ = (c, .ns [y, z] [o, o']) :: (a, .list acc) :: (nls rs (vss.take i) ++ H), xs.length, ⟨[], none, none, rfl, rfl, rfl⟩, ?_⟩
  rintro i acc H₁ hi ⟨rs, o, o', hr, rfl, rfl⟩
  by_cases h : i < xs.length
  · left
    have hx : xs[i]? = some xs[i] := List.getElem?_eq_getElem h
    have hy : vss[i]? = some (vss[i]'(hl ▸ h)) := List.getElem?_eq_getElem _
    refine ⟨_, h, hI i _ _ _ _ (fun p => List.mem_append_right _) hx, ?_⟩
    refine asg_Tuple hA (wpas_cons (asg_Name (store_local FE .head .head (wpas_cons (asg_Name (store_local FE .head (.tail .head) (wpas_nil (wpt_nil ⟨fun zz => ?_, fun e => nomatch e⟩))))))))
    refine WP.less ((he i _ _ _ _ (fun p => List.mem_append_right _) hx hy).mono ?_)
    rintro u H₄ ⟨r, rfl, hs⟩
    refine ⟨_, hs, by rw [List.length_map]; lia, _, .tail .head, rs ++ [r], some xs[i].1, some xs[i].2, by simp [hr], by simp, ?_⟩
    rw [← List.take_append_getElem (hl ▸ h), nl_snoc _ _ (by rw [List.length_take]; lia)]
    rfl
  · right
    have : i = xs.length := by lia
    subst this
    rw [← hl, List.take_length]
    exact ⟨hl ▸ hN _ _ _ fun p => List.mem_append_right _, hf _ _ (hl ▸ hr)⟩
theorem turns_filt {y : Str} {py : Pos} {n : Nat} {p : Nat → Bool} {test : Expr} {Item : Nat → AH → Option V → Prop} {Fin : List V → AH → Prop} (FE : FEnv cenv c [y] cn' gn') (hz : n ≤ 100000)
    (hI : ∀ (i : Nat) o acc, i < n → Item i ((c, .ns [y] [o]) :: (a, .list acc) :: H) (some (.int (i : Nat)))) (hN : ∀ o acc, Item n ((c, .ns [y] [o]) :: (a, .list acc) :: H) none)
    (ht : ∀ (i : Nat) acc, i < n → WPB C' A cenv test (fun t H₄ => t = p i ∧ Sub ((c, .ns [y] [some (.int (i : Nat))]) :: (a, .list acc) :: H) H₄) ((c, .ns [y] [some (.int (i : Nat))]) :: (a, .list acc) :: H))
    (he : ∀ (i : Nat) acc, i < n → WP C' A (VRel C'.X) (eval elt cenv) (fun u H₄ => u = .int (i : Nat) ∧ Sub ((c, .ns [y] [some (.int (i : Nat))]) :: (a, .list acc) :: H) H₄) ((c, .ns [y] [some (.int (i : Nat))]) :: (a, .list acc) :: H))
    (hf : ∀ o, Fin (((List.range n).filter p).map fun d => V.int (d : Nat)) ((c, .ns [y] [o]) :: (a, .list (((List.range n).filter p).map fun d => V.int (d : Nat))) :: H)) : CompTurns C C' A cenv (.Name y py) [test] elt a Item Fin ((c, .ns [y] [none]) :: (a, .list []) :: H) := by
  refine ⟨fun i acc H₁ => acc = (((List.range i).filter p).map fun d => V.int (d : Nat)) ∧ ∃ o, H₁ = (c, .ns [y] [o]) :: (a, .list acc) :: H, n, ⟨rfl, none, rfl⟩, ?_⟩
  rintro i acc H₁ hi ⟨rfl, o, rfl⟩
  by_cases h : i < n
  · left
    refine ⟨_, h, hI i _ _ h, asg_Name (store_local FE .head .head (WP.pin (T := BRel) (p i) (wpt_one (ht i _ h)) ⟨fun hp => ?_, fun hp => ?_⟩))⟩
    · refine WP.less ((he i _ h).mono ?_)
      rintro u H₄ ⟨rfl, hs⟩
      refine ⟨_, hs, ?_, _, .tail .head, ?_, _, rfl⟩
      · rw [List.length_map]; exact Nat.le_trans (List.length_filter_le _ _) (by rw [List.length_range]; exact Nat.le_trans hi hz)
      · rw [List.range_succ, List.filter_append, List.map_append]; simp [hp]
    · refine ⟨?_, _, rfl⟩
      rw [List.range_succ, List.filter_append]; simp [hp]
  · right
    have : i = n := by lia
    subst this
    exact ⟨hN _ _, hf _⟩
end
end
noncomputable section
section
variable {C : Cfg} {gl : List (Str × V)} {A : Around} {H : AH} {Q : V → AH → Prop} {l : List Env}
theorem c_bytes_ints {b : Addr} {ns : List Int} (hA : A.handled = none) (hl : (b, AO.list (ns.map V.int)) ∈ H) (hr : ∀ n ∈ ns, 0 ≤ n ∧ n < 256) (hz : ns.length ≤ 10000) (q : Q (.bytes (byteArr ns)) H) : WPC C A (.ty "bytes") [.ref b] Q H := wpc_ty fun avs s ra R => by
  obtain ⟨v, rfl, r1⟩ := rel1 ra
  simp only [VRel] at r1; subst r1
  obtain ⟨items, pl, rvs⟩ := R.objs _ hl
  have hlen := rvs.length
  rw [List.length_map] at hlen
  refine call_bytes_ints (vs := items.toList) (by rw [Array.toArray_toList]; exact PlainList.isList pl) (intsAre_of rvs) hr (by rw [hlen, sizeLine_eq]; lia) hA fun h' t k hk => ?_
  exact ⟨.bytes (byteArr ns), H, q, by simp only [VRel]; exact ⟨_, rfl⟩, R.ext hk, kept_of_ext hk⟩
theorem code_okCF {fa : Addr} {F : FnA} {cd : Value} {pn ln gn cn : List Str} {xs : List V} {vals : List (Option V)} {body : List Stmt} {n : Nat} (O : FnOk F pn ln gn cn [])
    (G : C.Ok gl) (hF : ∀ s, Rel C H s → FnAt s.heap fa F cd) (hroom : Room A (n + 1)) (hfr : A.frames = some l) (hb : F.body = .stmts body) (hclo : F.closure = []) (hpl : pn.length = xs.length)
    (hv : ln.length = vals.length) (hvals : ∀ (k : Nat) x u, ln[k]? = some x → vals[k]? = some (some u) → At pn (xs.map some) x u)
    (h : ∀ L cs A' env, cs.map (·.1) = cn → Room A' n → A'.frames = some (env :: l) → env.frame = some L → env.scope.kind ≠ .module → FEnv env L ln cs gn → env = envF F L fa cd cs → ∃ Hc, CInit pn (xs.map some) cs Hc ∧ WPS C A' env body (fun fl H₁ => ∃ H₂, Sub H₂ H₁ ∧ Q fl.val H₂) (Hc ++ (L, .ns ln vals) :: H)) :
    CodeC C A fa xs Q H :=
  code_fnC G hF hroom hb hclo O.binds hpl O.ndp (fun x hx => (O.hl x hx).1) O.nd (fun x hx => by
      rcases O.pk x hx with h | h
      · exact .inl (O.hl x h).1
      · exact .inr (O.hc x h).1)
    (fun L x hx hk => by
      have hm : x ∈ cn := by
        rcases O.pk x hx with h | h
        · rw [(O.hl x h).1] at hk; cases hk
        · exact h
      rw [← O.cells L] at hm
      obtain ⟨p, hp, rfl⟩ := List.mem_map.mp hm
      rw [(O.cellsLook L hp).2]; rfl)
    (fun L p hp => ⟨(O.hc p.1 (O.cellsLook L hp).1).1, (O.cellsLook L hp).2⟩) hv hvals
    (fun L => by
      obtain ⟨Hc, ci, hw⟩ := h L _ _ _ (O.cells L) (hroom.deeper _) (Around.frames_deeper hfr) rfl (by show F.scope.kind ≠ _; rw [O.kind]; decide) (O.envC L fa cd) rfl
      exact ⟨Hc, ci, hw⟩) O.co O.gen O.kind
end
end
open PySem.Challenge
 /-- an argument by its word: `?` a new goal, `+x` what the group `x` finds, else a name -/
 def wArg (s : String) : Lean.MacroM Lean.Term :=
  if s == "?" then `(?_) else if s == "_" then `(_) else if s.front == '+' then `(by walk_at $(Lean.quote (s.drop 1).toString)) else pure (Lean.mkIdent s.toName)
 /-- a name and its arguments -/
 def wApp (l : List String) : Lean.MacroM Lean.Term := do
  pure (Lean.Syntax.mkApp (Lean.mkIdent (l.headD "").toName) (← (l.drop 1).toArray.mapM wArg))
 /-- one way of a group: `to x` (the group `x`), `to x if A .. < B .. > ..` (the group `x` where the goal shows as A of B), `here` (assumption), else a rule (in a group with `*` it is applied) -/
 def wAlt (ap : Bool) (l : List String) : Lean.MacroM (Lean.TSyntax `tactic) := do
  match l with
  | ["here"] => `(tactic| assumption)
  | ["to", x] => `(tactic| walk_at $(Lean.quote x))
  | "to" :: x :: "if" :: f :: r =>
    let i := r.dropWhile (· != "<")
    let b ← (r.takeWhile (· != "<")).toArray.mapM wArg
    let c ← wApp ((i.drop 1).takeWhile (· != ">"))
    let d ← ((i.dropWhile (· != ">")).drop 1).toArray.mapM wArg
    `(tactic| ((show $(Lean.Syntax.mkApp (Lean.mkIdent f.toName) (b ++ (if i == [] then d else #[c] ++ d)))); walk_at $(Lean.quote x)))
  | _ => do let t ← wApp l; if ap then `(tactic| apply $t) else `(tactic| refine $t)
 /-- the walk's rules, by group -/
 def wRows : List String := [
  "*mem here|List.mem_cons_self|List.mem_cons_of_mem", "*at At.head|At.tail", "*put Put.head|Put.tail", "*upd here|Upd.head|Upd.tail", "*pick Pick.head|Pick.tail", "*init Init.done|Init.arg|Init.none", "*sub Sub.refl|Sub.drop",
  "s wps_cons ?|wps_nil ?|to gB if WP _ _ _ < exec _ _ > _ _|to gD if WP _ _ _ < eval _ _ > _ _|to gJ if WP _ _ _ < loadName _ _ > _ _|to gL if WP _ _ _ < spliced _ > _ _|to gE if WP _ _ _ < isTrue _ _ _ > _ _|to gK if Op1 _ _ _ < storeName _ _ > _ _ _|to gF if Op1 _ _ _ _ _ _ _|to gG if Op2 _ _ _ _ _ _ _ _|to gI",
  "gB wp1_Assign_Name ?|wp1_Return ?|wp1_If ?|wp1_Expr ? +in|wp1_Aug_Name ?|wp1_Return_none ?|wp1_Break ?|wp1_Continue ?",
  "in FEnv.inter FE",
  "gC wp_local FE +mem +at ?|wp_cell FE +mem +mem ?|wp_glob G FE +mem +mem ?",
  "gD wp_int ?|wp_Call_Name ?|wp_Call_Attr ?|wp_BinOp ?|wp_Slice ?|wp_Subscript ?|wp_Attribute ?|wp_str ?|wp_Compare ?|wp_UnaryOp ?|wp_IfExp ?|wp_Tuple ?|wp_List ?|wp_bool ?|wp_none ?|wp_bytes ?|to gC",
  "gE wpb_Compare ?|wpb_Not ?|wpb_Name ?|wpb_Attribute ?|wpb_Subscript ?|wpb_Call ?|wpb_BinOp ?|wpb_BoolOp ?",
  "gF asg_Name ?|tr_bool ?|tr_int ?|op_neg_int ?",
  "gG op_add_int ?|op_sub_int ?|iop_add_int ?|iop_sub_int ?|op_lt_int ?|op_gt_int ?|op_le_int ?|op_ge_int ?|op_eq_int ?|op_ne_int ?|op_eq_str ?|op_ne_str ?",
  "gI wps_next ?|wps_ret ?|wpg_cons ?|wpg_nil ?|noneOf ?|intOf ?|fewOf ?|turn_next ?|turn_cont ?|turn_brk ?|turn_ret ?|wps_brk ?|wps_cont ?|wpp_none ?|wpp_some ?|wp_allAnd_cons ?|wp_allAnd_nil ?|wp_allOr_cons ?|wp_allOr_nil ?|wpt_nil ?|wpt_one ?",
  "gJ load_local FE +mem +at ?|load_cell FE +mem +mem ?",
  "gK store_local FE +upd +put ?|store_cell FE +mem +upd ?",
  "gL wpl_cons ?|wpl_nil ?"]
set_option hygiene false in
local macro_rules | `(tactic| walk_at $s) => do
  let g := s.getString
  let find (p : String) := (wRows.find? fun r => r.startsWith (p ++ " ")).map fun r => (((r.drop (p.length + 1)).toString.splitOn "|").map (·.splitOn " ")).toArray
  match find g with
  | some a => do let a ← a.mapM (wAlt false); let m : Lean.TSyntax `tactic ← `(tactic| first $[| $a:tactic]*); if g == "s" then `(tactic| with_reducible $m:tactic) else pure m
  | none => match find ("*" ++ g) with
    | some a => do let a ← a.mapM (wAlt true); `(tactic| ((with_reducible (repeat (first $[| $a:tactic]*))); done))
    | none => Lean.Macro.throwUnsupported
noncomputable section
noncomputable abbrev PW : Program := pw_sw0039_01
noncomputable def dfn (qual : Str) (clos : List (Str × Addr)) : Stmt → FnA
  | .FunctionDef _ ps b _ _ _ sc .. => ⟨qual, ps, .stmts b, sc, clos⟩
  | _ => ⟨qual, default, .stmts [], default, clos⟩
noncomputable def cbody : Stmt → List Stmt
  | .ClassDef _ _ _ b .. => b
  | .FunctionDef _ _ b .. => b
  | _ => []
noncomputable def nth (b : List Stmt) (n : Nat) : Stmt := b.getD n (.Pass ⟨0, 0, 0, 0⟩)
noncomputable def lfn (qual : Str) (clos : List (Str × Addr)) : Stmt → FnA
  | .Assign _ (.Lambda ps b sc _) _ => ⟨qual, ps, .expr b, sc, clos⟩
  | _ => ⟨qual, default, .stmts [], default, clos⟩
noncomputable def rfn (qual : Str) (clos : List (Str × Addr)) : Stmt → FnA
  | .Return (some (.Tuple (.Lambda ps b sc _ :: _) _ _)) _ => ⟨qual, ps, .expr b, sc, clos⟩
  | _ => ⟨qual, default, .stmts [], default, clos⟩

noncomputable def F_Int2AP : FnA := dfn "Int2AP" [] (nth PW.main.body 9)
theorem ok_Int2AP : FnOk F_Int2AP ["num"] ["num", "val", "AP", "mod"] ["int", "abs", "divmod"] [] [] :=
  fnOk (binds1 fun zz zz => rfl) (by kernel_rfl) fun L => rfl
noncomputable def F_div2n1n : FnA := dfn "_div2n1n" [] (nth PW.main.body 2)
theorem ok_div2n1n : FnOk F_div2n1n ["a", "b", "n"] ["a", "b", "n", "pad", "half_n", "mask", "b1", "b2", "q1", "r", "q2"] ["_DIV_LIMIT", "divmod"] [] [] :=
  fnOk (binds3 fun zz zz zz zz => rfl) (by kernel_rfl) fun L => rfl
noncomputable def F_int2digits : FnA := dfn "_int2digits" [] (nth PW.main.body 4)
theorem ok_int2digits : FnOk F_int2digits ["a", "n"] ["a"] ["len"] ["inner", "a_digits", "n"] [] :=
  fnOk (binds2 fun zz zz zz => rfl) (by kernel_rfl) fun L => rfl
noncomputable def F_i2dInner (clos : List (Str × Addr)) : FnA := dfn "_int2digits.<locals>.inner" clos (nth (cbody (nth PW.main.body 4)) 1)
theorem ok_i2dInner (clos : List (Str × Addr)) : FnOk (F_i2dInner clos) ["x", "L", "R"] ["x", "L", "R", "mid", "shift", "upper", "lower"] [] [] ["n", "inner", "a_digits"] :=
  fnOk (binds3 fun zz zz zz zz => rfl) (by kernel_rfl) fun L => rfl
noncomputable def F_digits2int : FnA := dfn "_digits2int" [] (nth PW.main.body 5)
theorem ok_digits2int : FnOk F_digits2int ["digits", "n"] [] ["len"] ["inner", "n", "digits"] [] :=
  fnOk (binds2 fun zz zz zz => rfl) (by kernel_rfl) fun L => rfl
noncomputable def F_d2iInner (clos : List (Str × Addr)) : FnA := dfn "_digits2int.<locals>.inner" clos (nth (cbody (nth PW.main.body 5)) 0)
theorem ok_d2iInner (clos : List (Str × Addr)) : FnOk (F_d2iInner clos) ["L", "R"] ["L", "R", "mid", "shift"] [] [] ["n", "inner", "digits"] :=
  fnOk (binds2 fun zz zz zz => rfl) (by kernel_rfl) fun L => rfl
noncomputable def F_divmod_pos : FnA := dfn "_divmod_pos" [] (nth PW.main.body 6)
theorem ok_divmod_pos : FnOk F_divmod_pos ["a", "b"] ["a", "b", "n", "a_digits", "r", "q_digits", "a_digit", "q_digit", "q"] ["_int2digits", "reversed", "_div2n1n", "_digits2int"] [] [] :=
  fnOk (binds2 fun zz zz zz => rfl) (by kernel_rfl) fun L => rfl
noncomputable def F_int_divmod : FnA := dfn "int_divmod" [] (nth PW.main.body 7)
theorem ok_int_divmod : FnOk F_int_divmod ["a", "b"] ["a", "b", "q", "r"] ["int_divmod", "_divmod_pos", "ZeroDivisionError"] [] [] :=
  fnOk (binds2 fun zz zz zz => rfl) (by kernel_rfl) fun L => rfl
noncomputable def F_init : FnA := dfn "_netrclex.__init__" [] (nth (cbody (nth PW.main.body 11)) 0)
theorem ok_init : FnOk F_init ["self", "fp"] ["self", "fp"] [] [] [] :=
  fnOk (binds2 fun zz zz zz => rfl) (by kernel_rfl) fun L => rfl
noncomputable def F_read : FnA := dfn "_netrclex._read_char" [] (nth (cbody (nth PW.main.body 11)) 1)
theorem ok_read : FnOk F_read ["self"] ["self", "ch"] [] [] [] :=
  fnOk (binds1 fun zz zz => rfl) (by kernel_rfl) fun L => rfl
noncomputable def F_get : FnA := dfn "_netrclex.get_token" [] (nth (cbody (nth PW.main.body 11)) 2)
theorem ok_get : FnOk F_get ["self"] ["self", "token", "fiter", "ch"] ["iter"] [] [] :=
  fnOk (binds1 fun zz zz => rfl) (by kernel_rfl) fun L => rfl
noncomputable def F_push : FnA := dfn "_netrclex.push_token" [] (nth (cbody (nth PW.main.body 11)) 3)
theorem ok_push : FnOk F_push ["self", "token"] ["self", "token"] [] [] [] :=
  fnOk (binds2 fun zz zz zz => rfl) (by kernel_rfl) fun L => rfl
noncomputable def F_stream : FnA := dfn "_law_stream" [] (nth PW.main.body 13)
theorem ok_stream : FnOk F_stream ["left"] ["fp"] [] ["left"] [] :=
  fnOk (binds1 fun zz zz => rfl) (by kernel_rfl) fun L => rfl
noncomputable def F_lam (clos : List (Str × Addr)) : FnA := lfn "_law_stream.<locals>.<lambda>" clos (nth (cbody (nth PW.main.body 13)) 1)
theorem ok_lam (clos : List (Str × Addr)) : FnOk (F_lam clos) ["count"] ["count"] [] [] ["left"] :=
  fnOk (binds1 fun zz zz => rfl) (by kernel_rfl) fun L => rfl
noncomputable def F_word : FnA := dfn "_law_word" [] (nth PW.main.body 14)
theorem ok_word : FnOk F_word ["term", "letters"] ["term", "letters"] [] [] [] :=
  fnOk (binds2 fun zz zz zz => rfl) (by kernel_rfl) fun L => rfl
noncomputable def F_own : FnA := dfn "_law_own" [] (nth PW.main.body 15)
theorem ok_own : FnOk F_own ["term"] ["places"] ["range", "abs", "_law_word"] ["term"] [] :=
  fnOk (binds1 fun zz zz => rfl) (by kernel_rfl) fun L => rfl
noncomputable def F_text : FnA := dfn "_law_text" [] (nth PW.main.body 16)
theorem ok_text : FnOk F_text ["words", "cells", "end"] ["words", "cells", "end", "text", "marks", "k", "word", "more", "last", "body", "gap"] ["enumerate", "len"] ["style"] [] :=
  fnOk (binds3 fun zz zz zz zz => rfl) (by kernel_rfl) fun L => rfl
noncomputable def F_settle : FnA := dfn "_law_settle" [] (nth PW.main.body 17)
theorem ok_settle : FnOk F_settle ["box", "line"] ["box", "line", "p", "q", "r", "s", "term", "rest", "other", "more"] ["int_divmod", "ZeroDivisionError", "_law_word", "Int2AP"] [] [] :=
  fnOk (binds2 fun zz zz zz => rfl) (by kernel_rfl) fun L => rfl
noncomputable def F_give : FnA := dfn "_law_give" [] (nth PW.main.body 18)
theorem ok_give : FnOk F_give ["line", "box", "ask", "asked", "heard"] ["line", "box", "ask", "asked", "heard", "word", "p", "q", "r", "s", "size", "term"] ["_digits2int", "_law_settle"] [] [] :=
  fnOk (binds5 fun zz zz zz zz zz zz => rfl) (by kernel_rfl) fun L => rfl
noncomputable def F_machine : FnA := dfn "_law_machine" [] (nth PW.main.body 19)
theorem ok_machine : FnOk F_machine ["four", "ask"] ["four"] ["_netrclex", "_law_stream"] ["line", "heard", "box", "asked", "ask"] [] :=
  fnOk (binds2 fun zz zz zz => rfl) (by kernel_rfl) fun L => rfl
noncomputable def F_mlam (clos : List (Str × Addr)) : FnA := rfn "_law_machine.<locals>.<lambda>" clos (nth (cbody (nth PW.main.body 19)) 1)
theorem ok_mlam (clos : List (Str × Addr)) : FnOk (F_mlam clos) [] [] ["_law_give"] [] ["line", "heard", "box", "asked", "ask"] :=
  fnOk (binds0 fun zz => rfl) (by kernel_rfl) fun L => rfl
noncomputable def F_run : FnA := dfn "_law_run" [] (nth PW.main.body 20)
theorem ok_run : FnOk F_run ["text", "there", "back"] ["there", "back", "ask", "one", "asked_one", "heard_one", "asked_two", "heard_two", "came"] ["list", "_netrclex", "_law_stream", "_law_machine", "range"] ["reader", "notes", "left", "two", "text"] [] :=
  fnOk (binds3 fun zz zz zz zz => rfl) (by kernel_rfl) fun L => rfl
noncomputable def F_rlam (clos : List (Str × Addr)) : FnA := lfn "_law_run.<locals>.<lambda>" clos (nth (cbody (nth PW.main.body 20)) 2)
theorem ok_rlam (clos : List (Str × Addr)) : FnOk (F_rlam clos) [] [] ["len"] [] ["text", "reader", "notes", "left"] :=
  fnOk (binds0 fun zz => rfl) (by kernel_rfl) fun L => rfl
noncomputable def F_fraction : FnA := dfn "_law_fraction" [] (nth PW.main.body 21)
theorem ok_fraction : FnOk F_fraction ["terms"] ["terms", "above", "below", "term"] [] [] [] :=
  fnOk (binds1 fun zz zz => rfl) (by kernel_rfl) fun L => rfl
noncomputable def F_euclid : FnA := dfn "_law_euclid" [] (nth PW.main.body 22)
theorem ok_euclid : FnOk F_euclid ["above", "below"] ["above", "below", "row"] [] [] [] :=
  fnOk (binds2 fun zz zz zz => rfl) (by kernel_rfl) fun L => rfl
noncomputable def F_alike : FnA := dfn "_law_alike" [] (nth PW.main.body 23)
theorem ok_alike : FnOk F_alike ["four", "terms"] ["four", "ends"] ["len", "range", "min"] ["two", "one", "d", "c", "b", "a", "terms"] [] :=
  fnOk (binds2 fun zz zz zz => rfl) (by kernel_rfl) fun L => rfl
noncomputable def F_divided : FnA := dfn "_law_divided" [] (nth PW.main.body 24)
theorem ok_divided : FnOk F_divided ["one", "two"] ["one", "two", "error"] ["int_divmod", "ZeroDivisionError", "str"] [] [] :=
  fnOk (binds2 fun zz zz zz => rfl) (by kernel_rfl) fun L => rfl
noncomputable def F_law : FnA := dfn "law" [] (nth PW.main.body 25)
theorem ok_law : FnOk F_law ["script"] ["script", "one", "cells", "terms", "a", "b", "c", "d", "there", "back", "term", "marks", "asked", "heard", "notes", "above", "below", "up", "down", "middle", "due", "rows", "counts", "pairs"] ["range", "_law_text", "_law_run", "_law_fraction", "_law_euclid", "len", "bytes", "_int2digits", "abs", "Int2AP"] ["four", "row", "text", "number"] [] :=
  fnOk (binds1 fun zz zz => rfl) (by kernel_rfl) fun L => rfl

structure Ad where
  (ap div2 i2d d2i dmp idm cls fInit fRead fGet fPush stream word own text settle give machine run fraction euclid alike divided : Addr)
  (pI2d pD2i pStream pMachine pRun : Addr)
noncomputable abbrev GL3 (a : Ad) : List (Str × V) := ("int", .ty "int") :: ("abs", .bi "abs") :: ("divmod", .bi "divmod") :: ("len", .bi "len") :: ("reversed", .ty "reversed") :: ("range", .ty "range") :: ("enumerate", .ty "enumerate") ::
  ("list", .ty "list") :: ("chr", .bi "chr") :: ("ord", .bi "ord") :: ("iter", .bi "iter") :: ("min", .bi "min") :: ("str", .ty "str") :: ("bytes", .ty "bytes") :: ("ZeroDivisionError", .ty "ZeroDivisionError") :: ("_DIV_LIMIT", .int 4000) :: ("Int2AP", .ref a.ap) :: ("_div2n1n", .ref a.div2) :: ("_int2digits", .ref a.i2d) :: ("_digits2int", .ref a.d2i) ::
  ("_divmod_pos", .ref a.dmp) :: ("int_divmod", .ref a.idm) :: ("_netrclex", .ref a.cls) :: ("_law_stream", .ref a.stream) :: ("_law_word", .ref a.word) :: ("_law_own", .ref a.own) :: ("_law_text", .ref a.text) :: ("_law_settle", .ref a.settle) :: ("_law_give", .ref a.give) ::
  ("_law_machine", .ref a.machine) :: ("_law_run", .ref a.run) :: ("_law_fraction", .ref a.fraction) :: ("_law_euclid", .ref a.euclid) :: ("_law_alike", .ref a.alike) :: ("_law_divided", .ref a.divided) :: []
structure Cls3 (K : Frag) (a : Ad) : Prop where
  ok : ClsOk K a.cls
  init : findIn K (.ref a.cls) "__init__" = some (some (.ref a.fInit))
  initT : typeIn K (.ref a.fInit) = some (.type "function")
  read : findIn K (.ref a.cls) "_read_char" = some (some (.ref a.fRead))
  readT : isFn K (.ref a.fRead) = true
  readG : specialIn K (.ref a.fRead) "__get__" = some (some (.builtin "function.__get__"))
  readS : takesIn K (.ref a.fRead) = some false
  get : findIn K (.ref a.cls) "get_token" = some (some (.ref a.fGet))
  getT : isFn K (.ref a.fGet) = true
  push : findIn K (.ref a.cls) "push_token" = some (some (.ref a.fPush))
  pushT : isFn K (.ref a.fPush) = true
  at1 : findIn K (.ref a.cls) "lineno" = some none ∧ takerIn K a.cls "lineno" = some none
  at2 : findIn K (.ref a.cls) "instream" = some none ∧ takerIn K a.cls "instream" = some none
  at3 : findIn K (.ref a.cls) "whitespace" = some none ∧ takerIn K a.cls "whitespace" = some none
  at4 : findIn K (.ref a.cls) "pushback" = some none ∧ takerIn K a.cls "pushback" = some none
structure W3 (C : Cfg) (a : Ad) : Prop where
  G : C.Ok (GL3 a)
  cls : Cls3 C.K a
  ap : ∃ cd, FnAt C.B a.ap F_Int2AP cd
  div2 : ∃ cd, FnAt C.B a.div2 F_div2n1n cd
  i2d : ∃ c, FnAt C.B a.i2d F_int2digits (.ref c) ∧ CodeHd C.B c a.pI2d
  d2i : ∃ c, FnAt C.B a.d2i F_digits2int (.ref c) ∧ CodeHd C.B c a.pD2i
  dmp : ∃ cd, FnAt C.B a.dmp F_divmod_pos cd
  idm : ∃ cd, FnAt C.B a.idm F_int_divmod cd
  fInit : ∃ cd, FnAt C.B a.fInit F_init cd
  fRead : ∃ cd, FnAt C.B a.fRead F_read cd
  fGet : ∃ cd, FnAt C.B a.fGet F_get cd
  fPush : ∃ cd, FnAt C.B a.fPush F_push cd
  stream : ∃ c, FnAt C.B a.stream F_stream (.ref c) ∧ CodeHd C.B c a.pStream
  word : ∃ cd, FnAt C.B a.word F_word cd
  own : ∃ cd, FnAt C.B a.own F_own cd
  text : ∃ cd, FnAt C.B a.text F_text cd
  settle : ∃ cd, FnAt C.B a.settle F_settle cd
  give : ∃ cd, FnAt C.B a.give F_give cd
  machine : ∃ c, FnAt C.B a.machine F_machine (.ref c) ∧ CodeHd C.B c a.pMachine
  run : ∃ c, FnAt C.B a.run F_run (.ref c) ∧ CodeHd C.B c a.pRun
  fraction : ∃ cd, FnAt C.B a.fraction F_fraction cd
  euclid : ∃ cd, FnAt C.B a.euclid F_euclid cd
  alike : ∃ cd, FnAt C.B a.alike F_alike cd
  divided : ∃ cd, FnAt C.B a.divided F_divided cd
end
noncomputable section
noncomputable def apL (n : Nat) : List UInt8 := if h : n = 0 then [] else apL (n / 16) ++ [UInt8.ofNat (65 + n % 16)]
decreasing_by lia
theorem apL_zero : apL 0 = [] := by rw [apL]; rfl
theorem apL_pos {n : Nat} (h : n ≠ 0) : apL n = apL (n / 16) ++ [UInt8.ofNat (65 + n % 16)] := by rw [apL, dif_neg h]
theorem ap_pick : ∀ m : Fin 16, KBy.picked [65, 66, 67, 68, 69, 70, 71, 72, 73, 74, 75, 76, 77, 78, 79, 80].toArray (some (m.val : Int)) (some ((m.val : Int) + 1)) = #[UInt8.ofNat (65 + m.val)] := by decide +kernel

section
variable {C : Cfg} {a : Ad} {A : Around} {H : AH} {Q : V → AH → Prop}
inductive ApO (n : Int) (L : Addr) (H : AH) (i : Nat) (H₁ : AH) : Prop
  | mk (k : Nat) (b : Array UInt8) (md : Option V) (h1 : k < 16 ^ (1000 - i)) (h2 : apL n.natAbs = apL k ++ b.toList) (h3 : b.size ≤ i) (h4 : H₁ = (L, AO.ns ["num", "val", "AP", "mod"] [some (.int (k : Nat)), some (.bytes b), some (.bytes [65, 66, 67, 68, 69, 70, 71, 72, 73, 74, 75, 76, 77, 78, 79, 80].toArray), md]) :: H) : ApO n L H i H₁
theorem sp_Int2AP {n : Int} (W : W3 C a) (hr : Room A 1) (hn : n.natAbs < 16 ^ 1000) (q : Q (.bytes (apL n.natAbs).toArray) H) :
    WPC C A (.ref a.ap) [.int n] Q H := by
  have G := W.G
  obtain ⟨cd, hF⟩ := W.ap
  refine call_ok ok_Int2AP G (fnAt_of_base hF) hr rfl rfl (by walk_at "init") rfl rfl fun L cd A' env hr' hD FE he => ?_
  have hA := hr'.hd
  repeat walk_at "s"
  refine c_abs ?_
  repeat walk_at "s"
  refine c_int ?_
  repeat walk_at "s"
  refine wp1_While (ApO n L H) 1000
    ⟨n.natAbs, #[], none, hn, by simp, Nat.le_refl _, rfl⟩ ?_
  rintro i H₁ hi ⟨k, b, md, hk, hb, hz, rfl⟩
  repeat walk_at "s"
  refine ⟨fun hne => ?_, fun he => ?_⟩
  · have hk0 : k ≠ 0 := by simpa using hne
    have hi' : i < 1000 := Nat.lt_of_not_le fun h => by
      have : 1000 - i = 0 := by exact Nat.sub_eq_zero_of_le h
      rw [this] at hk; lia
    refine ⟨hi', ?_⟩
    repeat walk_at "s"
    refine wp1_Assign ?_
    repeat walk_at "s"
    refine c_divmod (by decide) (PyProof.noPylong_small (by decide)) ?_
    refine asg_Tuple hA (wpas_cons ?_)
    repeat walk_at "s"
    refine wpas_cons ?_
    repeat walk_at "s"
    refine wpas_nil ?_
    repeat walk_at "s"
    refine gs_bytes (by decide) ?_
    repeat walk_at "s"
    have e1 : (k : Int).fdiv 16 = ((k / 16 : Nat) : Int) := fdiv_nat k 16
    have e2 : (k : Int).fmod 16 = ((k % 16 : Nat) : Int) := fmod_nat k 16
    have e3 := ap_pick ⟨k % 16, Nat.mod_lt _ (by decide)⟩
    simp only [] at e3
    rw [e1, e2, e3]
    refine op_add_bytes (by simp; lia) ?_
    repeat walk_at "s"
    refine ⟨k / 16, _, some (.int ((k % 16 : Nat) : Int)), ?_, ?_, ?_, rfl⟩
    · have : 1000 - i = (1000 - (i + 1)) + 1 := sub_s (by assumption)
      rw [this, Nat.pow_succ] at hk
      lia
    · rw [hb, apL_pos hk0]; simp
    · simp; lia
  · have hk0 : k = 0 := by simpa using he
    subst hk0
    repeat walk_at "s"
    refine ⟨H, .drop (.refl _), ?_⟩
    rw [apL_zero] at hb
    simp at hb
    rw [hb] at q
    exact q

theorem sp_div2 {x y n : Int} (W : W3 C a) (hr : Room A 1) (hb : y ≠ 0) (hx : (Builtin.Int.intBits x : Int) - n ≤ 4000) (hp : Builtin.divisionGoesByPylong x y = false) (q : Q (.tup [.int (x.fdiv y), .int (x.fmod y)]) H) :
    WPC C A (.ref a.div2) [.int x, .int y, .int n] Q H := by
  have G := W.G
  obtain ⟨cd, hF⟩ := W.div2
  refine call_ok ok_div2n1n G (fnAt_of_base hF) hr rfl rfl (by walk_at "init") rfl rfl fun L cd A' env hr' hD FE he => ?_
  repeat walk_at "s"
  refine wpm_bitlen ?_
  repeat walk_at "s"
  refine c_bitlen ?_
  repeat walk_at "s"
  refine ⟨fun zz => ?_, fun h => absurd hx (by simpa using h)⟩
  repeat walk_at "s"
  refine c_divmod hb hp ?_
  exact ⟨H, .drop (.refl _), q⟩
end
end
noncomputable section
noncomputable abbrev natVs (l : List Nat) : List V := l.map fun d => V.int (d : Nat)
section
variable {C : Cfg} {a : Ad} {A : Around} {H : AH} {Q : V → AH → Prop}
theorem sp_i2dInner (W : W3 C a) {n : Nat} {fi cn ci ca ld : Addr} (hn : 1 ≤ n) : ∀ (d : Nat) {A : Around} {Q : V → AH → Prop} {pre post : AH} {vs : List V} {x L R : Nat}, Room A (d + 1) → R - L ≤ 2 ^ d → L < R → R ≤ vs.length → vs.length ≤ 10000 → n * (R - L) ≤ 100000 → x < 2 ^ (n * (R - L)) →
    (fi, AO.fn (F_i2dInner [("n", cn), ("inner", ci), ("a_digits", ca)])) ∈ pre ++ post → (cn, AO.cell (some (.int (n : Nat)))) ∈ pre ++ post → (ci, AO.cell (some (.ref fi))) ∈ pre ++ post → (ca, AO.cell (some (.ref ld))) ∈ pre ++ post →
    Q .none (pre ++ (ld, .list (splice vs L (natVs (digs x n (R - L))))) :: post) →
    WPC C A (.ref fi) [.int x, .int L, .int R] Q (pre ++ (ld, .list vs) :: post) := by
  intro d
  induction d with
  | zero =>
    intro A Q pre post vs x L R hr hd hlt hR hz hnz hx m1 m2 m3 m4 q
    have G := W.G
    have ins : ∀ {p : Addr × AO} {r : Addr × AO}, p ∈ pre ++ post → p ∈ pre ++ r :: post := fun h => by
      rcases List.mem_append.mp h with h | h
      · exact List.mem_append_left _ h
      · exact List.mem_append_right _ (List.mem_cons_of_mem _ h)
    have m1' := ins (r := (ld, .list vs)) m1
    have m2' := ins (r := (ld, .list vs)) m2
    have m3' := ins (r := (ld, .list vs)) m3
    have m4' := ins (r := (ld, .list vs)) m4
    refine call_ok (cl := [("n", cn), ("inner", ci), ("a_digits", ca)]) (ok_i2dInner _) G (fnAt_of_fn m1') hr rfl rfl (by walk_at "init") rfl rfl fun Lo cd A' env hr' hD FE he => ?_
    have hRL : R = L + 1 := by lia
    subst hRL
    repeat walk_at "s"
    refine ⟨fun zz => ?_, fun h => by simp at h⟩
    repeat walk_at "s"
    refine wp1_Assign ?_
    repeat walk_at "s"
    refine asg_Subscript ?_
    repeat walk_at "s"
    refine set_list (.tail .of_split) (by exact Int.natCast_nonneg L) (by exact Int.ofNat_lt.mpr hR) (by lia) ?_
    repeat walk_at "s"
    refine ⟨_, .drop (.refl _), ?_⟩
    have e1 : L + 1 - L = 1 := Nat.add_sub_cancel_left ..
    rw [e1] at q hx
    rw [digs_one (by simpa using hx)] at q
    rw [Int.toNat_natCast, splice_one hR]
    exact q
  | succ d ih =>
    intro A Q pre post vs x L R hr hd hlt hR hz hnz hx m1 m2 m3 m4 q
    have G := W.G
    have ins : ∀ {p : Addr × AO} {r : Addr × AO}, p ∈ pre ++ post → p ∈ pre ++ r :: post := fun h => by
      rcases List.mem_append.mp h with h | h
      · exact List.mem_append_left _ h
      · exact List.mem_append_right _ (List.mem_cons_of_mem _ h)
    have m1' := ins (r := (ld, .list vs)) m1
    have m2' := ins (r := (ld, .list vs)) m2
    have m3' := ins (r := (ld, .list vs)) m3
    have m4' := ins (r := (ld, .list vs)) m4
    refine call_ok (cl := [("n", cn), ("inner", ci), ("a_digits", ca)]) (ok_i2dInner _) G (fnAt_of_fn m1') hr rfl rfl (by walk_at "init") rfl rfl fun Lo cd A' env hr' hD FE he => ?_
    by_cases h1 : R = L + 1
    · subst h1
      repeat walk_at "s"
      refine ⟨fun zz => ?_, fun h => by simp at h⟩
      repeat walk_at "s"
      refine wp1_Assign ?_
      repeat walk_at "s"
      refine asg_Subscript ?_
      repeat walk_at "s"
      refine set_list (.tail .of_split) (by exact Int.natCast_nonneg L) (by exact Int.ofNat_lt.mpr hR) (by lia) ?_
      repeat walk_at "s"
      refine ⟨_, .drop (.refl _), ?_⟩
      have e1 : L + 1 - L = 1 := Nat.add_sub_cancel_left ..
      rw [e1] at q hx
      rw [digs_one (by simpa using hx)] at q
      rw [Int.toNat_natCast, splice_one hR]
      exact q
    · repeat walk_at "s"
      refine ⟨fun h => absurd (by simp at h; exact Eq.symm ((fun {m n} => Int.ofNat_inj.mp) h)) h1, fun zz => ?_⟩
      repeat walk_at "s"
      refine op_rshift_int (by decide) ?_
      have e0 : ((L : Int) + (R : Int)).fdiv (2 ^ (1 : Int).toNat) = (((L + R) / 2 : Nat) : Int) := shr_nat (L + R) 1
      rw [e0]
      generalize hM : (L + R) / 2 = M
      repeat walk_at "s"
      have hML : L < M := (halves hM hlt h1).1
      have hMR : M < R := (halves hM hlt h1).2
      have hsum : n * (R - L) = n * (M - L) + n * (R - M) := by rw [← Nat.mul_add, ← splitL (Nat.le_of_lt hML) (Nat.le_of_lt hMR)]
      have hM20 : M < 2 ^ 20 := Nat.lt_of_lt_of_le (Nat.lt_of_lt_of_le hMR hR) (Nat.le_trans hz (by decide))
      have hn1 : n * (M - L) ≤ 100000 := Nat.le_trans (hsum ▸ Nat.le_add_right _ _) hnz
      have hn2 : n * (R - M) ≤ 100000 := Nat.le_trans (hsum ▸ Nat.le_add_left _ _) hnz
      have hnle : n ≤ 100000 := Nat.le_trans (Nat.le_mul_of_pos_right n (Nat.sub_pos_of_lt hlt)) hnz
      refine op_mul_int (mulOk (k := 20) (l := 20) (abs_diff (Nat.lt_trans hML hM20) hM20) (by rw [Int.natAbs_natCast]; exact Nat.lt_of_le_of_lt hnle (by decide)) (by decide)) ?_
      have e2 : ((M : Int) - (L : Int)) * (n : Int) = ((n * (M - L) : Nat) : Int) := by
        rw [csub (Nat.le_of_lt hML), Nat.mul_comm]; push_cast; rfl
      rw [e2]
      generalize hS : n * (M - L) = S at hsum ⊢
      repeat walk_at "s"
      refine op_rshift_int (Int.natCast_nonneg _) ?_
      rw [shr_nat]
      have hu : x / 2 ^ S < 2 ^ (n * (R - M)) := by
        rw [Nat.div_lt_iff_lt_mul (Nat.two_pow_pos _), ← Nat.pow_add]
        have : n * (R - M) + S = n * (R - L) := by rw [hsum, Nat.add_comm]
        rw [this]; exact hx
      repeat walk_at "s"
      refine op_lshift_int (Int.natCast_nonneg _) ?_ ?_
      · have : Builtin.Int.intBits ((x / 2 ^ S : Nat) : Int) ≤ n * (R - M) := intBits_le (by rw [Int.natAbs_natCast]; exact hu)
        have h2 : (2 : Int) ^ 27 = 134217728 := rfl
        rw [h2]
        exact Int.ofNat_le.mpr (Nat.le_trans (Nat.add_le_add (Nat.le_trans this hn2) (hS ▸ hn1)) (by decide))
      rw [shl_nat]
      refine op_xor_int ?_
      rw [xor_low]
      repeat walk_at "s"
      have q' := q
      have e3 : R - L = (M - L) + (R - M) := splitL (Nat.le_of_lt hML) (Nat.le_of_lt hMR)
      rw [e3, digs_add, hS] at q'
      refine ih (pre := (Lo, AO.ns _ _) :: pre) hr' (halvesD hM (by assumption)).1 hML (Nat.le_trans (Nat.le_of_lt hMR) hR) hz hn1 (by rw [hS]; exact Nat.mod_lt _ (Nat.two_pow_pos _)) (.tail _ m1) (.tail _ m2) (.tail _ m3) (.tail _ m4) ?_
      rw [List.cons_append]
      have n2 := ins (r := (ld, .list (splice vs L (natVs (digs (x % 2 ^ S) n (M - L)))))) m2
      have n3 := ins (r := (ld, .list (splice vs L (natVs (digs (x % 2 ^ S) n (M - L)))))) m3
      have n4 := ins (r := (ld, .list (splice vs L (natVs (digs (x % 2 ^ S) n (M - L)))))) m4
      repeat walk_at "s"
      have hDl : (natVs (digs (x % 2 ^ S) n (M - L))).length = M - L := by simp [digs_length]
      have hDr : (natVs (digs (x / 2 ^ S) n (R - M))).length = R - M := by simp [digs_length]
      have hlen : (splice vs L (natVs (digs (x % 2 ^ S) n (M - L)))).length = vs.length := splice_length (by rw [hDl]; exact addL (Nat.le_of_lt hML) (Nat.le_trans (Nat.le_of_lt hMR) hR))
      refine ih (pre := (Lo, AO.ns _ _) :: pre) hr' (halvesD hM (by assumption)).2 hMR (by rw [hlen]; exact hR) (by rw [hlen]; exact hz) hn2 hu (.tail _ m1) (.tail _ m2) (.tail _ m3) (.tail _ m4) ?_
      rw [List.cons_append]
      repeat walk_at "s"
      refine ⟨_, .drop (.refl _), ?_⟩
      have e4 : M = L + (natVs (digs (x % 2 ^ S) n (M - L))).length := by rw [hDl, Nat.add_sub_cancel' (Nat.le_of_lt hML)]
      have e5 := splice_splice (vs := vs) (i := L) (D := natVs (digs (x % 2 ^ S) n (M - L))) (E := natVs (digs (x / 2 ^ S) n (R - M))) (by rw [hDl, hDr, Nat.add_sub_cancel' (Nat.le_of_lt hML), Nat.add_sub_cancel' (Nat.le_of_lt hMR)]; exact hR)
      rw [← e4] at e5
      rw [e5]
      rw [natVs, List.map_append] at q'
      exact q'
end
end
noncomputable section
section
variable {C : Cfg} {a : Ad} {A : Around} {H : AH} {Q : V → AH → Prop}
theorem sp_int2digits {x n : Nat} (W : W3 C a) (hr : Room A 20) (hn : 1 ≤ n) (hx : x < 2 ^ 8000) (hn' : n ≤ 8000) (hT : (a.pI2d, AO.tab "_int2digits.<locals>.inner") ∈ H)
    (q : ∀ l, Q (.ref l) ((l, .list (natVs (digs x n (ndig x n)))) :: H)) : WPC C A (.ref a.i2d) [.int x, .int n] Q H := by
  have G := W.G
  obtain ⟨c, hF, hC⟩ := W.i2d
  have hk : ndig x n ≤ 8000 := ndig_le hn (Nat.lt_of_lt_of_le hx (Nat.pow_le_pow_right (by decide) (Nat.le_mul_of_pos_left _ hn)))
  refine call_okC ok_int2digits G (fun s R => hF.keeps R.keep) hr rfl rfl rfl (vals := [some (.int x)]) rfl (VOk.get (.some .head (.rest rfl))) fun L cs A' env hcs hr' FE he => ?_
  · obtain ⟨c1, c2, c3, rfl⟩ := cells3 hcs
    refine ⟨_, .other (.other (.param (.tail .head) .nil)), ?_⟩
    have hA := hr'.hd
    simp only [List.cons_append, List.nil_append]
    repeat walk_at "s"
    intro l0
    repeat walk_at "s"
    refine wpm_bitlen ?_
    repeat walk_at "s"
    refine c_bitlen ?_
    repeat walk_at "s"
    have e1 : ((Builtin.Int.intBits (x : Int) : Nat) : Int) + (n : Int) - 1 = ((Builtin.Int.intBits (x : Int) + n - 1 : Nat) : Int) := by lia
    rw [e1]
    refine op_floordiv_int (by exact Int.natCast_ne_zero_iff_pos.mpr hn) (PyProof.noPylong_small (by lia)) ?_
    rw [fdiv_nat, show (Builtin.Int.intBits (x : Int) + n - 1) / n = ndig x n from rfl]
    refine op_mul_list (by walk_at "mem") (by exact Int.natCast_nonneg (Mine.Internal.ndig x n)) (by lia) ?_
    intro l
    rw [Int.toNat_natCast]
    repeat walk_at "s"
    refine wp1_DefF (F_i2dInner [("n", c3), ("inner", c1), ("a_digits", c2)]) G (by rw [he]; rfl) hC (by rw [he]; rfl) (by walk_at "mem") (closure_of (fs := ["a_digits", "inner", "n"]) (cs := [c2, c1, c3]) FE (by decide +kernel) rfl (by simp)) ?_ (he ▸ qual_in (k := .cell) (by decide +kernel) (by decide) (by decide +kernel))
    intro fi
    repeat walk_at "s"
    refine ⟨fun hx0 => ?_, fun hx0 => ?_⟩
    · have hx1 : x ≠ 0 := by simpa using hx0
      repeat walk_at "s"
      refine c_len_list (by walk_at "mem") (by simp; lia) ?_
      repeat walk_at "s"
      rw [List.length_replicate]
      have h13 : (2 : Nat) ^ 13 = 8192 := rfl
      have hbits : Builtin.Int.intBits (x : Int) ≤ 8000 := intBits_le (by rw [Int.natAbs_natCast]; exact hx)
      have hmul := ndig_mul_le (x := x) (n := n)
      refine sp_i2dInner (fi := fi) (cn := c3) (ci := c1) (ca := c2) (ld := l) W hn 13 (pre := [(fi, _)]) (L := 0) (hr'.mono (by decide)) (by lia) (by have := ndig_pos hn hx1; omega) (by simp) (by simp; lia) (by rw [Nat.sub_zero]; lia) (by simpa using lt_ndig hn) (by simp) (by simp) (by simp) (by simp) ?_
      simp only [List.cons_append, List.nil_append, Nat.sub_zero]
      repeat walk_at "s"
      refine ⟨(l, _) :: H, .pick (.tail .head) (by walk_at "sub"), ?_⟩
      rw [splice_all (by simp [digs_length])]
      exact q l
    · have hx1 : x = 0 := by simpa using hx0
      subst hx1
      repeat walk_at "s"
      refine ⟨(l, _) :: H, .pick (.tail .head) (by walk_at "sub"), ?_⟩
      have e0 : ndig 0 n = 0 := by
        have := ndig_le (x := 0) (n := n) (k := 0) hn (by simp)
        exact Nat.eq_zero_of_le_zero this
      have := q l
      rw [e0] at this ⊢
      exact this
end
end
noncomputable section
section
variable {C : Cfg} {a : Ad} {A : Around} {H : AH} {Q : V → AH → Prop}
theorem take_drop_split {α : Type} (l : List α) {i m j : Nat} (h1 : i ≤ m) (h2 : m ≤ j) : (l.drop i).take (j - i) = (l.drop i).take (m - i) ++ (l.drop m).take (j - m) := by
  have e : j - i = (m - i) + (j - m) := splitL h1 h2
  rw [e, List.take_add, List.drop_drop]
  congr 3
  exact Nat.add_sub_cancel' h1
theorem sp_d2iInner (W : W3 C a) {n : Nat} {fi cn ci ca ld : Addr} {ds : List Int} {B : Nat} (hB : B ≤ 10000) (hds : ∀ d ∈ ds, d.natAbs < 2 ^ B) (hz : ds.length ≤ 8000) (hnz : (n + 1) * ds.length ≤ 100000) : ∀ (d : Nat) {A : Around} {Q : V → AH → Prop} {H : AH} {L R : Nat}, Room A (d + 1) → R - L ≤ 2 ^ d → L < R → R ≤ ds.length →
    (fi, AO.fn (F_d2iInner [("n", cn), ("inner", ci), ("digits", ca)])) ∈ H → (cn, AO.cell (some (.int (n : Nat)))) ∈ H → (ci, AO.cell (some (.ref fi))) ∈ H → (ca, AO.cell (some (.ref ld))) ∈ H → (ld, AO.list (ds.map V.int)) ∈ H →
    Q (.int (d2i n ((ds.drop L).take (R - L)))) H →
    WPC C A (.ref fi) [.int L, .int R] Q H := by
  intro d
  induction d with
  | zero =>
    intro A Q H L R hr hd hlt hR m1 m2 m3 m4 m5 q
    have G := W.G
    refine call_ok (cl := [("n", cn), ("inner", ci), ("digits", ca)]) (ok_d2iInner _) G (fnAt_of_fn m1) hr rfl rfl (by walk_at "init") rfl rfl fun Lo cd A' env hr' hD FE he => ?_
    have hRL : R = L + 1 := by lia
    subst hRL
    repeat walk_at "s"
    refine ⟨fun zz => ?_, fun h => by simp at h⟩
    repeat walk_at "s"
    refine gi_list (v := .int ds[L]) (by walk_at "mem") (by exact Int.natCast_nonneg L) (by simp) (by simp; lia) ?_
    repeat walk_at "s"
    refine ⟨H, by walk_at "sub", ?_⟩
    have e1 : L + 1 - L = 1 := Nat.add_sub_cancel_left ..
    have e2 : (ds.drop L).take 1 = [ds[L]] := by rw [List.drop_eq_getElem_cons (by assumption)]; rfl
    rw [e1, e2] at q
    show Q (.int _) H
    simpa [d2i] using q
  | succ d ih =>
    intro A Q H L R hr hd hlt hR m1 m2 m3 m4 m5 q
    have G := W.G
    refine call_ok (cl := [("n", cn), ("inner", ci), ("digits", ca)]) (ok_d2iInner _) G (fnAt_of_fn m1) hr rfl rfl (by walk_at "init") rfl rfl fun Lo cd A' env hr' hD FE he => ?_
    by_cases h1 : R = L + 1
    · subst h1
      repeat walk_at "s"
      refine ⟨fun zz => ?_, fun h => by simp at h⟩
      repeat walk_at "s"
      refine gi_list (v := .int ds[L]) (by walk_at "mem") (by exact Int.natCast_nonneg L) (by simp) (by simp; lia) ?_
      repeat walk_at "s"
      refine ⟨H, by walk_at "sub", ?_⟩
      have e1 : L + 1 - L = 1 := Nat.add_sub_cancel_left ..
      have e2 : (ds.drop L).take 1 = [ds[L]] := by rw [List.drop_eq_getElem_cons (by assumption)]; rfl
      rw [e1, e2] at q
      show Q (.int _) H
      simpa [d2i] using q
    · repeat walk_at "s"
      refine ⟨fun h => absurd (by simp at h; exact Eq.symm ((fun {m n} => Int.ofNat_inj.mp) h)) h1, fun zz => ?_⟩
      repeat walk_at "s"
      refine op_rshift_int (by decide) ?_
      have e0 : ((L : Int) + (R : Int)).fdiv (2 ^ (1 : Int).toNat) = (((L + R) / 2 : Nat) : Int) := shr_nat (L + R) 1
      rw [e0]
      generalize hM : (L + R) / 2 = M
      have hML : L < M := (halves hM hlt h1).1
      have hMR : M < R := (halves hM hlt h1).2
      have hM20 : M < 2 ^ 20 := Nat.lt_of_lt_of_le (Nat.lt_of_lt_of_le hMR hR) (Nat.le_trans hz (by decide))
      have hMLn : n * (M - L) ≤ 100000 := Nat.le_trans (Nat.mul_le_mul (Nat.le_succ n) (Nat.le_trans (Nat.sub_le _ _) (Nat.le_trans (Nat.le_of_lt hMR) hR))) hnz
      have hnle : n ≤ 100000 := Nat.le_trans (Nat.le_mul_of_pos_right n (Nat.sub_pos_of_lt hML)) hMLn
      repeat walk_at "s"
      refine op_mul_int (mulOk (k := 20) (l := 20) (abs_diff (Nat.lt_trans hML hM20) hM20) (by rw [Int.natAbs_natCast]; exact Nat.lt_of_le_of_lt hnle (by decide)) (by decide)) ?_
      have e2 : ((M : Int) - (L : Int)) * (n : Int) = ((n * (M - L) : Nat) : Int) := by
        rw [csub (Nat.le_of_lt hML), Nat.mul_comm]; push_cast; rfl
      rw [e2]
      generalize hS : n * (M - L) = S at hMLn ⊢
      repeat walk_at "s"
      refine ih hr' (halvesD hM hd).2 hMR hR (.tail _ m1) (.tail _ m2) (.tail _ m3) (.tail _ m4) (.tail _ m5) ?_
      repeat walk_at "s"
      refine op_lshift_int (Int.natCast_nonneg _) ?_ ?_
      · have hb := d2i_bound n B ((ds.drop M).take (R - M)) fun e he => hds e (List.mem_of_mem_drop (List.mem_of_mem_take he))
        have hb2 := intBits_le hb
        have hb3 : (n + 1) * ((ds.drop M).take (R - M)).length ≤ (n + 1) * ds.length := Nat.mul_le_mul_left _ (by rw [List.length_take, List.length_drop]; exact Nat.le_trans (Nat.min_le_right _ _) (Nat.sub_le _ _))
        have h2 : (2 : Int) ^ 27 = 134217728 := rfl
        rw [h2]
        exact Int.ofNat_le.mpr (Nat.le_trans (Nat.add_le_add (Nat.le_trans hb2 (Nat.add_le_add hB (Nat.le_trans hb3 hnz))) hMLn) (by decide))
      repeat walk_at "s"
      refine ih hr' (halvesD hM hd).1 hML (Nat.le_trans (Nat.le_of_lt hMR) hR) (.tail _ m1) (.tail _ m2) (.tail _ m3) (.tail _ m4) (.tail _ m5) ?_
      repeat walk_at "s"
      refine ⟨H, by walk_at "sub", ?_⟩
      rw [take_drop_split ds (Nat.le_of_lt hML) (Nat.le_of_lt hMR), d2i_append] at q
      have e5 : ((ds.drop L).take (M - L)).length = M - L := by rw [List.length_take, List.length_drop]; exact Nat.min_eq_left (Nat.sub_le_sub_right (Nat.le_trans (Nat.le_of_lt hMR) hR) _)
      rw [e5, hS] at q
      have e6 : d2i n ((ds.drop M).take (R - M)) * 2 ^ (S : Int).toNat + d2i n ((ds.drop L).take (M - L)) = d2i n ((ds.drop L).take (M - L)) + 2 ^ S * d2i n ((ds.drop M).take (R - M)) := by
        rw [Int.toNat_natCast, Int.mul_comm, Int.add_comm]
      show Q (.int _) H
      rw [e6]
      exact q

theorem sp_digits2int {n : Nat} {ds : List Int} {B : Nat} {ld : Addr} (W : W3 C a) (hr : Room A 20) (hB : B ≤ 10000) (hds : ∀ d ∈ ds, d.natAbs < 2 ^ B) (hz : ds.length ≤ 8000) (hnz : (n + 1) * ds.length ≤ 100000) (hT : (a.pD2i, AO.tab "_digits2int.<locals>.inner") ∈ H) (hl : (ld, AO.list (ds.map V.int)) ∈ H)
    (q : Q (.int (d2i n ds)) H) : WPC C A (.ref a.d2i) [.ref ld, .int n] Q H := by
  have G := W.G
  obtain ⟨c, hF, hC⟩ := W.d2i
  refine call_okC ok_digits2int G (fun s R => hF.keeps R.keep) hr rfl rfl rfl (vals := []) rfl (VOk.get (.rest rfl)) fun L cs A' env hcs hr' FE he => ?_
  obtain ⟨c1, c2, c3, rfl⟩ := cells3 hcs
  refine ⟨_, .other (.param (.tail .head) (.param .head .nil)), ?_⟩
  have hA := hr'.hd
  simp only [List.cons_append, List.nil_append]
  repeat walk_at "s"
  refine wp1_DefF (F_d2iInner [("n", c2), ("inner", c1), ("digits", c3)]) G (by rw [he]; rfl) hC (by rw [he]; rfl) (by walk_at "mem") (closure_of (fs := ["digits", "inner", "n"]) (cs := [c3, c1, c2]) FE (by decide +kernel) rfl (by simp)) ?_ (he ▸ qual_in (k := .cell) (by decide +kernel) (by decide) (by decide +kernel))
  intro fi
  repeat walk_at "s"
  refine tr_list (by walk_at "mem") (by simp; lia) ⟨fun h0 => ?_, fun h0 => ?_⟩
  · repeat walk_at "s"
    refine c_len_list (by walk_at "mem") (by simp; lia) ?_
    have h13 : (2 : Nat) ^ 13 = 8192 := rfl
    rw [List.length_map]
    repeat walk_at "s"
    refine sp_d2iInner (fi := fi) (cn := c2) (ci := c1) (ca := c3) (ld := ld) W hB hds hz hnz 13 (L := 0) (hr'.mono (by decide)) (by lia) (by simpa using h0) (Nat.le_refl _) (by walk_at "mem") (by walk_at "mem") (by walk_at "mem") (by walk_at "mem") (by walk_at "mem") ?_
    repeat walk_at "s"
    refine ⟨H, by walk_at "sub", ?_⟩
    show Q (.int _) H
    simpa using q
  · have : ds = [] := by simpa using h0
    subst this
    repeat walk_at "s"
    exact ⟨H, by walk_at "sub", q⟩
end
end
noncomputable section
section
variable {C : Cfg} {a : Ad} {A : Around} {H : AH} {Q : V → AH → Prop}
theorem noPy {x y : Int} (h : y.natAbs < 2 ^ 8000) : Builtin.divisionGoesByPylong x y = false := by
  refine PyProof.noPylong_of_log2 ?_
  by_cases h0 : y.natAbs = 0
  · rw [h0]; decide
  · exact Nat.lt_trans ((Nat.log2_lt h0).mpr h) (by decide)
theorem digs_get {x n k i : Nat} (h : i < k) : (digs x n k)[i]? = some (x / 2 ^ (n * i) % 2 ^ n) := by
  simp [digs, h]
theorem dm_step (x y n m : Nat) (hy : 0 < y) : x / 2 ^ (n * m) = x / 2 ^ (n * (m + 1)) * 2 ^ n + x / 2 ^ (n * m) % 2 ^ n := by
  have h1 : x / 2 ^ (n * (m + 1)) = x / 2 ^ (n * m) / 2 ^ n := by rw [Nat.div_div_eq_div_mul, ← Nat.pow_add, Nat.mul_add, Nat.mul_one]
  rw [h1, Nat.mul_comm (x / 2 ^ (n * m) / 2 ^ n)]
  exact (Nat.div_add_mod _ _).symm
theorem dm_divmod (T y p d : Nat) (hy : 0 < y) : (T * p + d) / y = T / y * p + (T % y * p + d) / y ∧ (T * p + d) % y = (T % y * p + d) % y := by
  have h := Nat.div_add_mod T y
  have e : T * p + d = y * (T / y * p) + (T % y * p + d) := by
    have h2 : T * p = (y * (T / y) + T % y) * p := by rw [h]
    rw [h2, Nat.add_mul, Nat.mul_assoc]; exact Nat.add_assoc (y * (T / y * p)) (T % y * p) d
  constructor
  · rw [e, Nat.mul_add_div hy]
  · rw [e, Nat.mul_add_mod]
theorem sp_divmod_pos {x y : Nat} (W : W3 C a) (hr : Room A 22) (hy : 0 < y) (hx : x < 2 ^ 3000) (hyb : y < 2 ^ 3000) (hT : (a.pI2d, AO.tab "_int2digits.<locals>.inner") ∈ H) (hT2 : (a.pD2i, AO.tab "_digits2int.<locals>.inner") ∈ H)
    (q : Q (.tup [.int (x / y : Nat), .int (x % y : Nat)]) H) : WPC C A (.ref a.dmp) [.int x, .int y] Q H := by
  have G := W.G
  obtain ⟨cd, hF⟩ := W.dmp
  refine call_ok ok_divmod_pos G (fnAt_of_base hF) hr rfl rfl (by walk_at "init") rfl rfl fun L cd A' env hr' hD FE he => ?_
  have hA := hr'.hd
  repeat walk_at "s"
  refine wpm_bitlen ?_
  repeat walk_at "s"
  refine c_bitlen ?_
  have hn1 := bits_pos (x := y) (by exact Nat.ne_zero_of_lt hy)
  have hn2 : Builtin.Int.intBits (y : Int) ≤ 3000 := intBits_le (by rw [Int.natAbs_natCast]; exact hyb)
  have hyn := bits_lt y
  generalize Builtin.Int.intBits (y : Int) = n at hn1 hn2 hyn ⊢
  repeat walk_at "s"
  refine sp_int2digits W (hr'.mono (by decide)) hn1 (Nat.lt_trans hx (Nat.pow_lt_pow_right (by decide) (by decide))) (by lia) (by walk_at "mem") ?_
  intro l
  have hxk := lt_ndig (x := x) hn1
  have hbits : Builtin.Int.intBits (x : Int) ≤ 3000 := intBits_le (by rw [Int.natAbs_natCast]; exact hx)
  have hmul := ndig_mul_le (x := x) (n := n)
  generalize ndig x n = k at hxk hmul ⊢
  have hk : k ≤ 6000 := Nat.le_trans (Nat.le_mul_of_pos_left k hn1) (by (clear hxk hyn hA he FE hD hr' hF G q hT2 hT hyb hx hy hr W; omega))
  repeat walk_at "s"
  intro ql
  repeat walk_at "s"
  refine wp1_For (wpi_Call ?_)
  repeat walk_at "s"
  refine ci_reversed hA (by walk_at "mem") ?_
  refine ⟨fun i H₁ => ∃ (qs : List Nat) (v1 v2 : Option V), i ≤ k ∧ qs.length = i ∧ (∀ e ∈ qs, e < 2 ^ n) ∧ d2i n (qs.reverse.map Int.ofNat) = ((x / 2 ^ (n * (k - i)) / y : Nat) : Int) ∧
    H₁ = (ql, AO.list (natVs qs)) :: (l, .list (natVs (digs x n k))) :: (L, AO.ns ["a", "b", "n", "a_digits", "r", "q_digits", "a_digit", "q_digit", "q"] [some (.int x), some (.int y), some (.int n), some (.ref l), some (.int ((x / 2 ^ (n * (k - i)) % y : Nat) : Int)), some (.ref ql), v1, v2, none]) :: H, k, ?_, ?_⟩
  · have e0 : x / 2 ^ (n * (k - 0)) = 0 := by rw [Nat.sub_zero]; exact Nat.div_eq_of_lt hxk
    refine ⟨[], none, none, Nat.zero_le _, rfl, by simp, ?_, ?_⟩
    · rw [e0]; simp [d2i]
    · rw [e0, Nat.zero_mod]; rfl
  · rintro i H₁ ⟨qs, v1, v2, hi, hlen, hq, hv, rfl⟩
    by_cases hik : i < k
    · left
      have hm : k - i = (k - (i + 1)) + 1 := sub_s (by assumption)
      have hget : (natVs (digs x n k)).reverse[i]? = some (.int ((x / 2 ^ (n * (k - (i + 1))) % 2 ^ n : Nat) : Int)) := by
        rw [List.getElem?_reverse (by simp [digs_length]; exact hik)]
        simp only [natVs, List.length_map, digs_length, List.getElem?_map]
        have : k - 1 - i = k - (i + 1) := by rw [Nat.sub_sub, Nat.add_comm]
        rw [this, digs_get (by (clear hm hv hq hi hk hmul hxk hbits hyn hn2 hn1 hA he FE hD hr' hF G q hT2 hT hyb hx hy hr W; omega))]; rfl
      refine ⟨_, hik, ⟨_, by walk_at "mem", by simp [digs_length], hget.symm⟩, ?_⟩
      have st := dm_step x y n (k - (i + 1)) hy
      rw [hm] at hv ⊢
      generalize x / 2 ^ (n * (k - (i + 1) + 1)) = T at hv st ⊢
      generalize hd : x / 2 ^ (n * (k - (i + 1))) % 2 ^ n = d at st ⊢
      have hdlt : d < 2 ^ n := hd ▸ Nat.mod_lt _ (Nat.two_pow_pos _)
      repeat walk_at "s"
      refine wp1_Assign ?_
      repeat walk_at "s"
      have hT1 : T % y < 2 ^ n := Nat.lt_trans (Nat.mod_lt _ hy) hyn
      refine op_lshift_int (by exact Int.natCast_nonneg n) ?_ ?_
      · have : Builtin.Int.intBits ((T % y : Nat) : Int) ≤ n := intBits_le (by rw [Int.natAbs_natCast]; exact hT1)
        have h2 : (2 : Int) ^ 27 = 134217728 := rfl
        rw [h2]; lia
      rw [shl_nat]
      repeat walk_at "s"
      have e3 : ((T % y * 2 ^ n : Nat) : Int) + (d : Int) = ((T % y * 2 ^ n + d : Nat) : Int) := by push_cast; rfl
      rw [e3]
      have hlt2 : T % y * 2 ^ n + d < 2 ^ (n + n) := by
        rw [Nat.pow_add]
        have := Nat.mul_le_mul_right (2 ^ n) (show T % y + 1 ≤ 2 ^ n from hT1)
        rw [Nat.add_mul, Nat.one_mul] at this
        lia
      refine sp_div2 W (hr'.mono (by decide)) (by exact Int.natCast_ne_zero_iff_pos.mpr hy) ?_ (noPy (by rw [Int.natAbs_natCast]; exact Nat.lt_trans hyb (Nat.pow_lt_pow_right (by decide) (by decide)))) ?_
      · have : Builtin.Int.intBits ((T % y * 2 ^ n + d : Nat) : Int) ≤ n + n := intBits_le (by rw [Int.natAbs_natCast]; exact hlt2)
        (clear hlt2 e3 hT1 hdlt st hd hv hget hm hik hq hlen hi hk hmul hxk hbits hyn hA he FE hD hr' hF G q hT2 hT hyb hx hy hr W; omega)
      rw [fdiv_nat, fmod_nat]
      refine asg_Tuple hA (wpas_cons ?_)
      repeat walk_at "s"
      refine wpas_cons ?_
      repeat walk_at "s"
      refine wpas_nil ?_
      repeat walk_at "s"
      refine wpm_append (by walk_at "mem") ?_
      repeat walk_at "s"
      refine c_append (by walk_at "upd") (by simp; lia) ?_
      repeat walk_at "s"
      obtain ⟨d1, d2⟩ := dm_divmod T y (2 ^ n) d hy
      have hql : (T % y * 2 ^ n + d) / y < 2 ^ n := by
        rw [Nat.div_lt_iff_lt_mul hy]
        have := Nat.mul_le_mul_right (2 ^ n) (show T % y + 1 ≤ y from Nat.mod_lt _ hy)
        rw [Nat.add_mul, Nat.one_mul, Nat.mul_comm y] at this
        lia
      refine ⟨qs ++ [(T % y * 2 ^ n + d) / y], some (.int (d : Nat)), some (.int ((T % y * 2 ^ n + d) / y : Nat)), hik, by simp [hlen], ?_, ?_, ?_⟩
      · intro e he
        rcases List.mem_append.mp he with he | he
        · exact hq e he
        · rw [List.mem_singleton.mp he]; exact hql
      · rw [List.reverse_append, List.map_append]
        show d2i n (Int.ofNat _ :: qs.reverse.map Int.ofNat) = _
        rw [d2i, hv, st, d1]
        push_cast
        rw [Int.add_comm, Int.mul_comm]
        rfl
      · rw [st, d2]
        simp
    · right
      have : i = k := by lia
      subst this
      refine ⟨⟨_, by walk_at "mem", by simp [digs_length], by simp [digs_length]⟩, ?_⟩
      repeat walk_at "s"
      refine wpm_reverse (by walk_at "mem") ?_
      repeat walk_at "s"
      refine c_reverse (by walk_at "upd") (by simp; lia) ?_
      have er : (natVs qs).reverse = (qs.reverse.map Int.ofNat).map V.int := by
        rw [List.map_map, natVs, ← List.map_reverse]; rfl
      rw [er]
      repeat walk_at "s"
      refine sp_digits2int (B := n) (ds := qs.reverse.map Int.ofNat) W (hr'.mono (by decide)) (by lia) (fun d hd => ?_) (by simp; lia) ?_ (by walk_at "mem") (by walk_at "mem") ?_
      · obtain ⟨e, he, rfl⟩ := List.mem_map.mp hd
        exact hq e (List.mem_reverse.mp he)
      · simp only [List.length_map, List.length_reverse, hlen]
        rw [Nat.add_mul, Nat.one_mul]; (clear er hik hv hi hxk hq hlen hyn hA he FE hD hr' hF G q hT2 hT hyb hx hy hr W; lia)
      rw [hv, Nat.sub_self, Nat.mul_zero, Nat.pow_zero, Nat.div_one]
      repeat walk_at "s"
      exact ⟨H, by walk_at "sub", q⟩

theorem sp_int_divmod (W : W3 C a) (hT : (a.pI2d, AO.tab "_int2digits.<locals>.inner") ∈ H) (hT2 : (a.pD2i, AO.tab "_digits2int.<locals>.inner") ∈ H) {x y : Nat} (hr : Room A 23) (hy : 0 < y) (hx : x < 2 ^ 3000) (hyb : y < 2 ^ 3000)
    (q : Q (.tup [.int (x / y : Nat), .int (x % y : Nat)]) H) : WPC C A (.ref a.idm) [.int x, .int y] Q H := by
  have G := W.G
  obtain ⟨cd, hF⟩ := W.idm
  refine call_ok ok_int_divmod G (fnAt_of_base hF) hr rfl rfl (by walk_at "init") rfl rfl fun L cd A' env hr' hD FE he => ?_
  repeat walk_at "s"
  refine ⟨fun h => absurd h (by simp; exact Nat.ne_zero_of_lt hy), fun zz => ?_⟩
  repeat walk_at "s"
  refine ⟨fun h => absurd h (by simp), fun zz => ?_⟩
  repeat walk_at "s"
  refine ⟨fun h => absurd h (by simp), fun zz => ?_⟩
  repeat walk_at "s"
  refine sp_divmod_pos W (hr'.mono (by decide)) hy hx hyb (by walk_at "mem") (by walk_at "mem") ?_
  repeat walk_at "s"
  exact ⟨H, by walk_at "sub", q⟩
end
end
noncomputable section
noncomputable abbrev wsS : Str := "\n\t\r "
noncomputable abbrev netA (n : Int) (fp : V) (pb : Addr) : List (Str × V) := [("lineno", .int n), ("instream", fp), ("whitespace", .str wsS), ("pushback", .ref pb)]
theorem net_line {n fp pb} : (netA n fp pb).lookup ("lineno" : Str) = some (V.int n) := rfl
theorem net_in {n fp pb} : (netA n fp pb).lookup ("instream" : Str) = some fp := rfl
theorem net_ws {n fp pb} : (netA n fp pb).lookup ("whitespace" : Str) = some (V.str wsS) := rfl
theorem net_pb {n fp pb} : (netA n fp pb).lookup ("pushback" : Str) = some (V.ref pb) := rfl
theorem net_no1 {n fp pb} : (netA n fp pb).lookup ("_read_char" : Str) = none := rfl
theorem net_no2 {n fp pb} : (netA n fp pb).lookup ("get_token" : Str) = none := rfl
theorem net_no3 {n fp pb} : (netA n fp pb).lookup ("push_token" : Str) = none := rfl
theorem put_line {n m fp pb} : putE "lineno" (.int m) (netA n fp pb) = netA m fp pb := rfl
noncomputable abbrev EL := List (Str × V)
theorem put_1 {n : Int} : putE "lineno" (.int n) [] = ([("lineno", .int n)] : EL) := rfl
theorem put_2 {n : Int} {fp : V} : putE "instream" fp ([("lineno", .int n)] : EL) = ([("lineno", .int n), ("instream", fp)] : EL) := rfl
theorem put_3 {n : Int} {fp : V} {w : V} : putE "whitespace" w ([("lineno", .int n), ("instream", fp)] : EL) = ([("lineno", .int n), ("instream", fp), ("whitespace", w)] : EL) := rfl
theorem put_4 {n : Int} {fp : V} {w p : V} : putE "pushback" p ([("lineno", .int n), ("instream", fp), ("whitespace", w)] : EL) = ([("lineno", .int n), ("instream", fp), ("whitespace", w), ("pushback", p)] : EL) := rfl
section
variable {C : Cfg} {a : Ad} {A : Around} {H H' : AH} {Q : V → AH → Prop} {QU : Unit → AH → Prop} {x dx Cl : Addr} {es es' : List (Str × V)} {name : Str} {gl : List (Str × V)}
theorem sa_own' {v : V} (he : putE name v es = es') (G : C.Ok gl) (O : ClsOk C.K Cl) (ht : takerIn C.K Cl name = some none) (hx : (x, AO.obj (instObj Cl dx)) ∈ H) (hu : Mine.Internal.Upd dx (.attrs es) (.attrs es') H H') (hz : es.length ≤ 900) (q : QU () H') :
    Op2 C A URel (fun o v => setAttr o name v) (.ref x) v QU H := sa_own G O hx (he.symm ▸ hu) ht hz q
theorem sp_net {fp : V} (W : W3 C a) (hr : Room A 3) (q : ∀ x dx pb, Q (.ref x) ((x, .obj (instObj a.cls dx)) :: (dx, .attrs (netA 1 fp pb)) :: (pb, .list []) :: H)) : WPC C A (.ref a.cls) [fp] Q H := by
  have G := W.G
  have O := W.cls.ok
  obtain ⟨cd, hF⟩ := W.fInit
  refine mk_inst (F := F_init) (ln := ["self", "fp"]) (vals := [none, some fp]) G O trivial W.cls.init W.cls.initT (fun H => fnAt_of_base hF) hr rfl ok_init.binds (fun x hx => (ok_init.hl x hx).1) ok_init.nd (fun x hx e => nomatch ok_init.allc x hx e) (fun x => .arg (.arg .done)) ?_
  intro x dx L cd' A' hr' hD
  have FE := ok_init.env L a.fInit cd' rfl
  generalize envF F_init L a.fInit cd' F_init.closure = env at FE ⊢
  simp only [List.set_cons_zero]
  repeat walk_at "s"
  refine wp1_Assign ?_
  repeat walk_at "s"
  refine asg_Attribute ?_
  repeat walk_at "s"
  refine sa_own' put_1 G O W.cls.at1.2 (by walk_at "mem") (by walk_at "upd") (by decide) ?_
  repeat walk_at "s"
  refine wp1_Assign ?_
  repeat walk_at "s"
  refine asg_Attribute ?_
  repeat walk_at "s"
  refine sa_own' put_2 G O W.cls.at2.2 (by walk_at "mem") (by walk_at "upd") (by decide) ?_
  repeat walk_at "s"
  refine wp1_Assign ?_
  repeat walk_at "s"
  refine asg_Attribute ?_
  repeat walk_at "s"
  refine sa_own' put_3 G O W.cls.at3.2 (by walk_at "mem") (by walk_at "upd") (Nat.le_of_ble_eq_true rfl) ?_
  repeat walk_at "s"
  refine wp1_Assign ?_
  repeat walk_at "s"
  intro pb
  refine asg_Attribute ?_
  repeat walk_at "s"
  refine sa_own' put_4 G O W.cls.at4.2 (by walk_at "mem") (by walk_at "upd") (Nat.le_of_ble_eq_true rfl) ?_
  repeat walk_at "s"
  exact ⟨(x, .obj (instObj a.cls dx)) :: (dx, .attrs (netA 1 fp pb)) :: (pb, .list []) :: H, .pick (.tail (.tail .head)) (.pick (.tail (.tail .head)) (.pick .head (by walk_at "sub"))), rfl, q x dx pb⟩

theorem not_bi {v : V} (h : ∀ i, v ≠ .bi i) : ∀ i, v = .bi i → handedIn (.builtin i) = true := fun i e => absurd e (h i)
theorem sp_push {x dx pb : Addr} {n : Int} {fp v : V} {vs : List V} (W : W3 C a) (hr : Room A 1) (hx : (x, AO.obj (instObj a.cls dx)) ∈ H) (hd : (dx, AO.attrs (netA n fp pb)) ∈ H) (hu : Mine.Internal.Upd pb (.list vs) (.list (vs ++ [v])) H H') (hz : vs.length ≤ 100000) (q : Q .none H') :
    WPC C A (.ref a.fPush) [.ref x, v] Q H := by
  have G := W.G
  obtain ⟨cd, hF⟩ := W.fPush
  refine call_ok ok_push G (fnAt_of_base hF) hr rfl rfl (by walk_at "init") rfl rfl fun L cd A' env hr' hD FE he => ?_
  have hm := hu.mem
  repeat walk_at "s"
  refine ga_own G W.cls.ok (.tail _ hx) (.tail _ hd) net_pb W.cls.at4.1 rfl (not_bi fun i e => nomatch e) ?_
  refine wpm_append (by walk_at "mem") ?_
  repeat walk_at "s"
  refine c_append (.tail hu) hz ?_
  repeat walk_at "s"
  exact ⟨H', by walk_at "sub", q⟩
theorem gm_push {x dx pb : Addr} {n : Int} {fp : V} {QM : V → List V → AH → Prop} (W : W3 C a) (hx : (x, AO.obj (instObj a.cls dx)) ∈ H) (hd : (dx, AO.attrs (netA n fp pb)) ∈ H) (q : QM (.ref a.fPush) [.ref x] H) : WPM C A (.ref x) "push_token" QM H :=
  gm_inst W.G W.cls.ok hx hd net_no3 W.cls.push W.cls.pushT q
theorem gm_get {x dx pb : Addr} {n : Int} {fp : V} {QM : V → List V → AH → Prop} (W : W3 C a) (hx : (x, AO.obj (instObj a.cls dx)) ∈ H) (hd : (dx, AO.attrs (netA n fp pb)) ∈ H) (q : QM (.ref a.fGet) [.ref x] H) : WPM C A (.ref x) "get_token" QM H :=
  gm_inst W.G W.cls.ok hx hd net_no2 W.cls.get W.cls.getT q
theorem gm_read {x dx pb : Addr} {n : Int} {fp : V} {QM : V → List V → AH → Prop} (W : W3 C a) (hx : (x, AO.obj (instObj a.cls dx)) ∈ H) (hd : (dx, AO.attrs (netA n fp pb)) ∈ H) (q : QM (.ref a.fRead) [.ref x] H) : WPM C A (.ref x) "_read_char" QM H :=
  gm_inst W.G W.cls.ok hx hd net_no1 W.cls.read W.cls.readT q
theorem ga_pb {x dx pb : Addr} {n : Int} {fp : V} {expr : Bool} (W : W3 C a) (hx : (x, AO.obj (instObj a.cls dx)) ∈ H) (hd : (dx, AO.attrs (netA n fp pb)) ∈ H) (q : Q (.ref pb) H) : Op1 C A (VRel C.X) (fun o => getAttr o "pushback" expr) (.ref x) Q H :=
  ga_own W.G W.cls.ok hx hd net_pb W.cls.at4.1 rfl (not_bi fun i e => nomatch e) q
theorem ga_line {x dx pb : Addr} {n : Int} {fp : V} {expr : Bool} (W : W3 C a) (hx : (x, AO.obj (instObj a.cls dx)) ∈ H) (hd : (dx, AO.attrs (netA n fp pb)) ∈ H) (q : Q (.int n) H) : Op1 C A (VRel C.X) (fun o => getAttr o "lineno" expr) (.ref x) Q H :=
  ga_own W.G W.cls.ok hx hd net_line W.cls.at1.1 rfl (not_bi fun i e => nomatch e) q
theorem ga_ws {x dx pb : Addr} {n : Int} {fp : V} {expr : Bool} (W : W3 C a) (hx : (x, AO.obj (instObj a.cls dx)) ∈ H) (hd : (dx, AO.attrs (netA n fp pb)) ∈ H) (q : Q (.str wsS) H) : Op1 C A (VRel C.X) (fun o => getAttr o "whitespace" expr) (.ref x) Q H :=
  ga_own W.G W.cls.ok hx hd net_ws W.cls.at3.1 rfl (not_bi fun i e => nomatch e) q
theorem ga_in {x dx pb fp : Addr} {n : Int} {expr : Bool} (W : W3 C a) (hx : (x, AO.obj (instObj a.cls dx)) ∈ H) (hd : (dx, AO.attrs (netA n (.ref fp) pb)) ∈ H) (q : Q (.ref fp) H) : Op1 C A (VRel C.X) (fun o => getAttr o "instream" expr) (.ref x) Q H :=
  ga_own W.G W.cls.ok hx hd net_in W.cls.at2.1 rfl (not_bi fun i e => nomatch e) q
end
end
noncomputable section
noncomputable abbrev sg (c : Nat) : Str := ⟨#[c]⟩
noncomputable abbrev signVs (cs : List Nat) : List V := cs.map fun c => V.str (sg c)
section
variable {C : Cfg} {a : Ad} {A : Around} {H H' : AH} {Q : V → AH → Prop}
theorem sp_lam1 {rd cl ll : Addr} {c : Nat} {cs : List Nat} {n : Int} (W : W3 C a) (hr : Room A 1) (m1 : (rd, AO.fn (F_lam [("left", cl)])) ∈ H) (m2 : (cl, AO.cell (some (.ref ll))) ∈ H) (hu : Mine.Internal.Upd ll (.list (signVs (c :: cs))) (.list (signVs cs)) H H') (hz : cs.length ≤ 90000)
    (q : Q (.str (sg c)) H') : WPC C A (.ref rd) [.int n] Q H := by
  have G := W.G
  refine call_okE (cl := [("left", cl)]) (ok_lam _) G (fnAt_of_fn m1) hr rfl rfl (by walk_at "init") rfl rfl fun L cd A' env hr' hD FE he => ?_
  have hm := hu.mem
  repeat walk_at "s"
  refine tr_list (by walk_at "mem") (by simp; lia) ⟨fun zz => ?_, fun h => by simp at h⟩
  repeat walk_at "s"
  refine wpm_pop (by walk_at "mem") ?_
  repeat walk_at "s"
  refine c_pop0 (.tail hu) (by simp; lia) ?_
  exact ⟨H', by walk_at "sub", q⟩
theorem sp_lam0 {rd cl ll : Addr} {n : Int} (W : W3 C a) (hr : Room A 1) (m1 : (rd, AO.fn (F_lam [("left", cl)])) ∈ H) (m2 : (cl, AO.cell (some (.ref ll))) ∈ H) (m3 : (ll, AO.list []) ∈ H)
    (q : Q (.str "") H) : WPC C A (.ref rd) [.int n] Q H := by
  have G := W.G
  refine call_okE (cl := [("left", cl)]) (ok_lam _) G (fnAt_of_fn m1) hr rfl rfl (by walk_at "init") rfl rfl fun L cd A' env hr' hD FE he => ?_
  repeat walk_at "s"
  refine tr_list (by walk_at "mem") (by simp) ⟨fun h => by simp at h, fun zz => ?_⟩
  repeat walk_at "s"
  exact ⟨H, by walk_at "sub", q⟩

theorem fs_read : typeLookup (.type "function") "read" = pure none := by rw [typeLookup_type, builtinLookup_eq_fast]; kernel_rfl
structure Rd (a : Ad) (x dx fp fd rd cl ll pb : Addr) (H : AH) : Prop where
  x : (x, AO.obj (instObj a.cls dx)) ∈ H
  fp : (fp, AO.fobj fd) ∈ H
  fd : (fd, AO.attrs [("read", .ref rd)]) ∈ H
  rd : (rd, AO.fn (F_lam [("left", cl)])) ∈ H
  cl : (cl, AO.cell (some (.ref ll))) ∈ H
theorem Rd.cons {x dx fp fd rd cl ll pb : Addr} (R : Rd a x dx fp fd rd cl ll pb H) (p : Addr × AO) : Rd a x dx fp fd rd cl ll pb (p :: H) := ⟨.tail _ R.x, .tail _ R.fp, .tail _ R.fd, .tail _ R.rd, .tail _ R.cl⟩
noncomputable abbrev lnOf (n : Int) (c : Nat) : Int := if c = 10 then n + 1 else n
theorem sg_eq (c : Nat) : (sg c == ("\n" : Str)) = decide (c = 10) := by
  have : ("\n" : Str) = sg 10 := by decide +kernel
  rw [this]
  by_cases h : c = 10
  · subst h; rfl
  · rw [decide_eq_false h]
    refine beq_eq_false_iff_ne.mpr fun e => h ?_
    have := congrArg (fun s : Str => s.cps.toList) e
    simpa using this
theorem sp_read {x dx fp fd rd cl ll pb : Addr} {c : Nat} {cs : List Nat} {n : Int} {K : AO → AO → AH} (W : W3 C a) (hr : Room A 2) (R : Rd a x dx fp fd rd cl ll pb H) (hk : Hole2 ll (.list (signVs (c :: cs))) dx (.attrs (netA n (.ref fp) pb)) H K) (hz : cs.length ≤ 90000)
    (hK : Rd a x dx fp fd rd cl ll pb (K (.list (signVs cs)) (.attrs (netA n (.ref fp) pb))))
    (q : Q (.str (sg c)) (K (.list (signVs cs)) (.attrs (netA (lnOf n c) (.ref fp) pb)))) : CodeC C A a.fRead [.ref x] Q H := by
  have G := W.G
  obtain ⟨cd, hF⟩ := W.fRead
  refine code_ok ok_read G (fnAt_of_base hF) hr rfl rfl (by walk_at "init") rfl rfl fun L cd A' env hr' hD FE he => ?_
  have e := hk.eq
  subst e
  have hd := hk.mem2 (.list (signVs (c :: cs))) (.attrs (netA n (.ref fp) pb))
  repeat walk_at "s"
  refine ga_in W (.tail _ R.x) (.tail _ hd) ?_
  refine gm_fobj fs_read (.tail _ R.fp) (.tail _ R.fd) rfl (not_bi fun i e => nomatch e) ?_
  repeat walk_at "s"
  refine sp_lam1 W hr' (.tail _ R.rd) (.tail _ R.cl) (.tail (hk.upd1 _ (.list (signVs cs)) _)) hz ?_
  repeat walk_at "s"
  rw [sg_eq]
  refine ⟨fun h => ?_, fun h => ?_⟩
  · have hc : c = 10 := by simpa using h
    subst hc
    repeat walk_at "s"
    refine wp1_Aug_Attribute ?_
    repeat walk_at "s"
    have hd' := hk.mem2 (.list (signVs cs)) (.attrs (netA n (.ref fp) pb))
    refine ga_line W (.tail _ hK.x) (.tail _ hd') ?_
    repeat walk_at "s"
    refine sa_own' put_line G W.cls.ok W.cls.at1.2 (.tail _ hK.x) (.tail (hk.upd2 _ _ _)) (Nat.le_of_ble_eq_true rfl) ?_
    repeat walk_at "s"
    refine ⟨_, .drop (.refl _), ?_⟩
    rw [lnOf, if_pos rfl] at q
    exact q
  · have hc : c ≠ 10 := by simpa using h
    repeat walk_at "s"
    refine ⟨_, .drop (.refl _), ?_⟩
    rw [lnOf, if_neg hc] at q
    exact q

theorem empty_ne : (("" : Str) == ("\n" : Str)) = false := by decide +kernel
theorem sp_read0 {x dx fp fd rd cl ll pb : Addr} {n : Int} (W : W3 C a) (hr : Room A 2) (R : Rd a x dx fp fd rd cl ll pb H) (hl : (ll, AO.list []) ∈ H) (hd : (dx, AO.attrs (netA n (.ref fp) pb)) ∈ H) (q : Q (.str "") H) : CodeC C A a.fRead [.ref x] Q H := by
  have G := W.G
  obtain ⟨cd, hF⟩ := W.fRead
  refine code_ok ok_read G (fnAt_of_base hF) hr rfl rfl (by walk_at "init") rfl rfl fun L cd A' env hr' hD FE he => ?_
  repeat walk_at "s"
  refine ga_in W (.tail _ R.x) (.tail _ hd) ?_
  refine gm_fobj fs_read (.tail _ R.fp) (.tail _ R.fd) rfl (not_bi fun i e => nomatch e) ?_
  repeat walk_at "s"
  refine sp_lam0 W hr' (.tail _ R.rd) (.tail _ R.cl) (.tail _ hl) ?_
  repeat walk_at "s"
  rw [empty_ne]
  refine ⟨fun h => by simp at h, fun h => ?_⟩
  repeat walk_at "s"
  exact ⟨H, by walk_at "sub", q⟩
end
end
noncomputable section
section
variable {C : Cfg} {a : Ad} {A : Around} {H H' : AH} {Q : V → AH → Prop}
theorem sp_get_pb {x dx pb : Addr} {n : Int} {fp t : V} {ts : List V} (W : W3 C a) (hr : Room A 1) (hx : (x, AO.obj (instObj a.cls dx)) ∈ H) (hd : (dx, AO.attrs (netA n fp pb)) ∈ H) (hu : Mine.Internal.Upd pb (.list (t :: ts)) (.list ts) H H') (hz : ts.length ≤ 90000) (q : Q t H') :
    WPC C A (.ref a.fGet) [.ref x] Q H := by
  have G := W.G
  obtain ⟨cd, hF⟩ := W.fGet
  refine call_ok ok_get G (fnAt_of_base hF) hr rfl rfl (by walk_at "init") rfl rfl fun L cd A' env hr' hD FE he => ?_
  have hm := hu.mem
  repeat walk_at "s"
  refine ga_pb W (.tail _ hx) (.tail _ hd) ?_
  refine tr_list (by walk_at "mem") (by simp; lia) ⟨fun zz => ?_, fun h => by simp at h⟩
  repeat walk_at "s"
  refine ga_pb W (.tail _ hx) (.tail _ hd) ?_
  refine wpm_pop (by walk_at "mem") ?_
  repeat walk_at "s"
  refine c_pop0 (.tail hu) (by lia) ?_
  repeat walk_at "s"
  exact ⟨H', by walk_at "sub", q⟩
end
end
noncomputable section
section
variable {C : Cfg} {a : Ad} {A : Around} {H H' : AH} {Q : V → AH → Prop}
theorem Room.in1 {A : Around} {n : Nat} (r : Room A (n + 1)) : Room A.in1 n := ⟨r.hd, by have := r.depth; show A.depth + n < 900; exact Nat.lt_of_succ_lt this, by have := r.units; show A.units + 1 + 8 * n + 100 < 9900; lia⟩
noncomputable abbrev GF (a : Ad) (L x I m : Addr) (t : Str) (ch : Option V) (io : Obj) (R : AH) : AH :=
  (I, AO.obj io) :: (m, AO.obj (methodObj (.ref a.fRead) (.ref x))) :: (L, AO.ns ["self", "token", "fiter", "ch"] [some (.ref x), some (.str t), some (.ref I), ch]) :: R
theorem fRead_fn (W : W3 C a) : ∀ H s, Rel C H s → ∃ o fd, s.heap.get? a.fRead = some o ∧ o.data = .func fd := fun H s R => by
  obtain ⟨cd, hF⟩ := W.fRead
  obtain ⟨o, fd, ho, hd, _⟩ := (hF.keeps R.keep).ex
  exact ⟨o, fd, ho, hd⟩
theorem sg_ne (c : Nat) : sg c ≠ "" := fun e => by
  have h1 : ("" : Str).cps.size = 0 := by decide +kernel
  have h2 : (sg c).cps.size = 0 := by rw [e]; exact h1
  simp at h2
theorem nx_sign {L x I m dx fp fd rd cl ll pb tk : Addr} {c : Nat} {l : List Nat} {n : Int} {t : Str} {ch : Option V} {K : AO → AO → AH} {u v : AO} {H₀ : AH} {QN : Option V → AH → Prop} (W : W3 C a) (hr : Room A 4) (hk : Hole2 ll u dx v H₀ K) (hR : ∀ u v, Rd a x dx fp fd rd cl ll pb (K u v)) (hz : l.length ≤ 80000)
    (q : QN (some (.str (sg c))) (GF a L x I m t ch (ciObj m tk) (K (.list (signVs l)) (.attrs (netA (lnOf n c) (.ref fp) pb))))) :
    WPN C A (.ref I) QN (GF a L x I m t ch (ciObj m tk) (K (.list (signVs (c :: l))) (.attrs (netA n (.ref fp) pb)))) := by
  refine nx_call hr.hd (by walk_at "mem") (by walk_at "mem") (fRead_fn W) ?_
  refine sp_read (K := fun u v => GF a L x I m t ch (ciObj m tk) (K u v)) W (hr.in1.mono (by decide)) (((hR _ _).cons _).cons _ |>.cons _) (.tail (.tail (.tail (hk.re _ _)))) (by lia) (((hR _ _).cons _).cons _ |>.cons _) ?_
  exact ⟨sg c, rfl, by walk_at "mem", by walk_at "mem", fun zz => q, fun e => absurd e (sg_ne c)⟩
theorem nx_eof {L x I m dx fp fd rd cl ll pb tk : Addr} {n : Int} {t : Str} {ch : Option V} {K : AO → AO → AH} {u v : AO} {H₀ : AH} {QN : Option V → AH → Prop} (W : W3 C a) (hr : Room A 4) (hk : Hole2 ll u dx v H₀ K) (hR : ∀ u v, Rd a x dx fp fd rd cl ll pb (K u v))
    (q : QN none (GF a L x I m t ch ciEnd (K (.list []) (.attrs (netA n (.ref fp) pb))))) :
    WPN C A (.ref I) QN (GF a L x I m t ch (ciObj m tk) (K (.list []) (.attrs (netA n (.ref fp) pb)))) := by
  refine nx_call hr.hd (by walk_at "mem") (by walk_at "mem") (fRead_fn W) ?_
  refine sp_read0 W (hr.in1.mono (by decide)) (((hR _ _).cons _).cons _ |>.cons _) (.tail _ (.tail _ (.tail _ (hk.mem1 _ _)))) (.tail _ (.tail _ (.tail _ (hk.mem2 _ _)))) ?_
  exact ⟨"", rfl, by walk_at "mem", by walk_at "mem", fun e => absurd rfl e, fun zz => ⟨_, .head, q⟩⟩
end
end
noncomputable section
section
variable {C : Cfg} {a : Ad} {A : Around} {H H' : AH} {Q : V → AH → Prop}
theorem wps_mid {env : Env} {QF : Fl → AH → Prop} {st : Stmt} {rest : List Stmt} (I : AH → Prop) (h : WP1 C A env st (fun f H₁ => f = .next ∧ I H₁) H) (k : ∀ H₁, I H₁ → WPS C A env rest QF H₁) : WPS C A env (st :: rest) QF H :=
  wps_cons fun s R => wpAny_mono (h s R) (fun _ _ ⟨x, H₁, ⟨hx, q⟩, rx, R₁, kp⟩ => ⟨x, H₁, by subst hx; exact k H₁ q, rx, R₁, kp⟩) fun zz zz e => e
inductive RdB (tok cs' : List Nat) (n' : Int) (a : Ad) (L x I m : Addr) (K : AO → AO → AH) (fp pb : Addr) (H₁ : AH) : Prop
  | mk (ch : Option V) (e : H₁ = GF a L x I m (mkS tok) ch ciEnd (K (.list (signVs cs')) (.attrs (netA n' (.ref fp) pb)))) : RdB tok cs' n' a L x I m K fp pb H₁
inductive RdA (k : Nat) (tok cs' : List Nat) (n' : Int) (a : Ad) (L x I m : Addr) (tk : Nat) (K : AO → AO → AH) (fp pb : Addr) (i : Nat) (H₁ : AH) : Prop
  | mk (l : List Nat) (n2 : Int) (ch : Option V) (h1 : l.length + i ≤ k) (h2 : tGo l n2 = (tok, cs', n')) (e : H₁ = GF a L x I m "" ch (ciObj m tk) (K (.list (signVs l)) (.attrs (netA n2 (.ref fp) pb)))) : RdA k tok cs' n' a L x I m tk K fp pb i H₁
inductive RdQ (k : Nat) (tok cs' : List Nat) (n' : Int) (a : Ad) (L x I m : Addr) (tk : Nat) (K : AO → AO → AH) (fp pb : Addr) (j : Nat) (H₁ : AH) : Prop
  | mk (l2 t2 : List Nat) (n3 : Int) (ch : Option V) (h1 : l2.length + j ≤ k) (h2 : t2.length + l2.length ≤ k) (h3 : qGo t2 l2 n3 = (tok, cs', n')) (e : H₁ = GF a L x I m (mkS t2) ch (ciObj m tk) (K (.list (signVs l2)) (.attrs (netA n3 (.ref fp) pb)))) : RdQ k tok cs' n' a L x I m tk K fp pb j H₁
inductive RdM (k : Nat) (tok cs' : List Nat) (n' : Int) (a : Ad) (L x I m : Addr) (tk : Nat) (K : AO → AO → AH) (fp pb : Addr) (H₁ : AH) : Prop
  | mk (l2 t2 : List Nat) (n3 : Int) (h1 : l2.length ≤ k) (h2 : t2.length ≤ 1) (h3 : bGo t2 l2 n3 = (tok, cs', n')) (e : H₁ = GF a L x I m "" (some (.str (mkS t2))) (ciObj m tk) (K (.list (signVs l2)) (.attrs (netA n3 (.ref fp) pb)))) : RdM k tok cs' n' a L x I m tk K fp pb H₁
inductive RdW (k : Nat) (tok cs' : List Nat) (n' : Int) (a : Ad) (L x I m : Addr) (tk : Nat) (K : AO → AO → AH) (fp pb : Addr) (j : Nat) (H₁ : AH) : Prop
  | mk (l3 t3 : List Nat) (n4 : Int) (ch : Option V) (h1 : l3.length + j ≤ k) (h2 : t3.length + l3.length ≤ k + 1) (h3 : bGo t3 l3 n4 = (tok, cs', n')) (e : H₁ = GF a L x I m (mkS t3) ch (ciObj m tk) (K (.list (signVs l3)) (.attrs (netA n4 (.ref fp) pb)))) : RdW k tok cs' n' a L x I m tk K fp pb j H₁
theorem sp_get_rd {x dx fp fd rd cl ll pb : Addr} {cs : List Nat} {n : Int} {K : AO → AO → AH} (W : W3 C a) (hr : Room A 6) (hk : Hole2 ll (.list (signVs cs)) dx (.attrs (netA n (.ref fp) pb)) H K) (hz : cs.length ≤ 80000)
    (hR : ∀ u v, Rd a x dx fp fd rd cl ll pb (K u v)) (hp : ∀ u v, (pb, AO.list []) ∈ K u v) {tok cs' : List Nat} {n' : Int} (ht : tGo cs n = (tok, cs', n'))
    (q : Q (.str (mkS tok)) (K (.list (signVs cs')) (.attrs (netA n' (.ref fp) pb)))) :
    WPC C A (.ref a.fGet) [.ref x] Q H := by
  have G := W.G
  obtain ⟨cd, hF⟩ := W.fGet
  have e := hk.eq
  subst e
  refine call_ok ok_get G (fnAt_of_base hF) hr rfl rfl (by walk_at "init") rfl rfl fun L cd A' env hr' hD FE he => ?_
  have hA := hr'.hd
  have hx := (hR (.list (signVs cs)) (.attrs (netA n (.ref fp) pb))).x
  have hd := hk.mem2 (.list (signVs cs)) (.attrs (netA n (.ref fp) pb))
  have hpb := hp (.list (signVs cs)) (.attrs (netA n (.ref fp) pb))
  repeat walk_at "s"
  refine ga_pb W (.tail _ hx) (.tail _ hd) ?_
  refine tr_list (by walk_at "mem") (by simp) ⟨fun h => by simp at h, fun zz => ?_⟩
  repeat walk_at "s"
  refine ga_bound G W.cls.ok (.tail _ hx) (.tail _ hd) net_no1 W.cls.read W.cls.readT W.cls.readG W.cls.readS (by decide +kernel) ?_
  intro m
  repeat walk_at "s"
  refine c_iter2 (by walk_at "mem") ?_
  intro I tk
  repeat walk_at "s"
  have hR4 := hr'.mono (show 4 ≤ 5 by decide)
  refine wp1_ForE I (fun i H₁ => RdA cs.length tok cs' n' a L x I m tk K fp pb i H₁ ∨ RdB tok cs' n' a L x I m K fp pb H₁) (cs.length + 1) ?_ ?_ ?_
  · rintro i H₁ s (⟨l, n2, ch, _, _, rfl⟩ | ⟨ch, rfl⟩) R
    · exact ci_self rfl (.head _) R
    · exact ci_self rfl (.head _) R
  · repeat walk_at "s"
    exact ⟨rfl, .inl ⟨cs, n, none, Nat.le_refl _, ht, rfl⟩⟩
  · rintro i H₁ hi (⟨l, n2, ch, hli, hg, rfl⟩ | ⟨ch, rfl⟩)
    · cases l with
      | nil =>
        refine nx_eof W hR4 hk hR ?_
        simp only [tGo, Prod.mk.injEq] at hg
        obtain ⟨rfl, rfl, rfl⟩ := hg
        repeat walk_at "s"
        exact ⟨_, .drop (.drop (.drop (.refl _))), q⟩
      | cons c l =>
        refine nx_sign W hR4 hk hR (by simp at hli; lia) ⟨by simp at hli; lia, ?_⟩
        have hd2 := hk.mem2 (.list (signVs l)) (.attrs (netA (lnOf n2 c) (.ref fp) pb))
        have hx2 := (hR (.list (signVs l)) (.attrs (netA (lnOf n2 c) (.ref fp) pb))).x
        repeat walk_at "s"
        refine ga_ws W (.tail _ (.tail _ (.tail _ hx2))) (.tail _ (.tail _ (.tail _ hd2))) ?_
        refine op_in_str ?_
        rw [ws_in]
        repeat walk_at "s"
        refine ⟨fun hw => ?_, fun hw => ?_⟩
        · repeat walk_at "s"
          refine .inl ⟨l, lnOf n2 c, some (.str (sg c)), by simp at hli; lia, ?_, rfl⟩
          rw [tGo_ws hw] at hg
          exact hg
        · repeat walk_at "s"
          rw [sg_is c 34 q_sign]
          refine ⟨fun h34 => ?_, fun h34 => ?_⟩
          · have hc : c = 34 := by simpa using h34
            subst hc
            rw [tGo_q] at hg
            repeat walk_at "s"
            have e34 : lnOf n2 34 = n2 := rfl
            have hl8 : l.length ≤ 80000 := by simp at hli; lia
            rw [e34]
            refine wp1_ForE I (fun j H₁ => RdQ l.length tok cs' n' a L x I m tk K fp pb j H₁ ∨ RdB tok cs' n' a L x I m K fp pb H₁) (l.length + 1) ?_ ?_ ?_
            · rintro j H₁ s (⟨l2, t2, n3, ch, _, _, _, rfl⟩ | ⟨ch, rfl⟩) R
              · exact ci_self rfl (.head _) R
              · exact ci_self rfl (.head _) R
            · repeat walk_at "s"
              exact ⟨rfl, .inl ⟨l, [], n2, _, Nat.le_refl _, by simp, hg, by rw [mkS_nil]⟩⟩
            · rintro j H₁ hj (⟨l2, t2, n3, ch, hlj, htl, hq, rfl⟩ | ⟨ch, rfl⟩)
              · cases l2 with
                | nil =>
                  refine nx_eof W hR4 hk hR ?_
                  rw [show qGo t2 [] n3 = (t2, [], n3) from rfl] at hq
                  simp only [Prod.mk.injEq] at hq
                  obtain ⟨rfl, rfl, rfl⟩ := hq
                  repeat walk_at "s"
                  exact .inr ⟨_, rfl⟩
                | cons c l3 =>
                  refine nx_sign W hR4 hk hR (by simp at htl hli; lia) ⟨by simp at hlj; lia, ?_⟩
                  repeat walk_at "s"
                  rw [sg_is c 34 q_sign]
                  refine ⟨fun h34 => ?_, fun h34 => ?_⟩
                  · have hc : c = 34 := by simpa using h34
                    subst hc
                    rw [qGo_q] at hq
                    simp only [Prod.mk.injEq] at hq
                    obtain ⟨rfl, rfl, rfl⟩ := hq
                    repeat walk_at "s"
                    exact ⟨_, .drop (.drop (.drop (.refl _))), q⟩
                  · have hc : c ≠ 34 := by simpa using h34
                    repeat walk_at "s"
                    rw [sg_is c 92 b_sign]
                    refine ⟨fun h92 => ?_, fun h92 => ?_⟩
                    · have hc2 : c = 92 := by simpa using h92
                      subst hc2
                      have e92 : lnOf n3 92 = n3 := rfl
                      rw [e92]
                      have hd3 := hk.mem2 (.list (signVs l3)) (.attrs (netA n3 (.ref fp) pb))
                      have hx3 := (hR (.list (signVs l3)) (.attrs (netA n3 (.ref fp) pb))).x
                      repeat walk_at "s"
                      refine gm_read W (.tail _ (.tail _ (.tail _ hx3))) (.tail _ (.tail _ (.tail _ hd3))) ?_
                      repeat walk_at "s"
                      refine WPC.of_code (fRead_fn W _) ?_
                      cases l3 with
                      | nil =>
                        refine sp_read0 W (hr'.mono (by decide)) (((hR _ _).cons _).cons _ |>.cons _) (.tail _ (.tail _ (.tail _ (hk.mem1 _ _)))) (.tail _ (.tail _ (.tail _ hd3))) ?_
                        rw [qGo_e0] at hq
                        repeat walk_at "s"
                        rw [mkS_nil]
                        refine iop_add_str (by simp [Str.length] at htl ⊢; lia) ?_
                        rw [mkS_app, List.append_nil]
                        repeat walk_at "s"
                        exact .inl ⟨[], t2, n3, _, by simp at hlj ⊢; lia, by simp at htl ⊢; exact Nat.le_of_succ_le htl, hq, rfl⟩
                      | cons d ds =>
                        refine sp_read (K := fun u v => GF a L x I m (mkS t2) (some (.str (sg 92))) (ciObj m tk) (K u v)) W (hr'.mono (by decide)) (((hR _ _).cons _).cons _ |>.cons _) (.tail (.tail (.tail (hk.re _ _)))) (by simp at htl; lia) (((hR _ _).cons _).cons _ |>.cons _) ?_
                        rw [qGo_e] at hq
                        repeat walk_at "s"
                        refine iop_add_str (by simp [Str.length] at htl ⊢; lia) ?_
                        rw [mkS_app]
                        repeat walk_at "s"
                        exact .inl ⟨ds, t2 ++ [d], lnOf n3 d, _, by simp at hlj ⊢; lia, by simp at htl ⊢; lia, hq, rfl⟩
                    · have hc2 : c ≠ 92 := by simpa using h92
                      rw [qGo_b hc hc2] at hq
                      repeat walk_at "s"
                      refine iop_add_str (by simp [Str.length] at htl ⊢; lia) ?_
                      rw [mkS_app]
                      repeat walk_at "s"
                      exact .inl ⟨l3, t2 ++ [c], lnOf n3 c, _, by simp at hlj; lia, by simp at htl ⊢; lia, hq, rfl⟩
              · refine nx_end hA (.head _) ?_
                repeat walk_at "s"
                exact .inr ⟨_, rfl⟩
          · have hc : c ≠ 34 := by simpa using h34
            have hw' : isW c = false := by simpa using hw
            refine wps_mid (RdM l.length tok cs' n' a L x I m tk K fp pb) ?_ ?_
            · repeat walk_at "s"
              rw [sg_is c 92 b_sign]
              refine ⟨fun h92 => ?_, fun h92 => ?_⟩
              · have hc2 : c = 92 := by simpa using h92
                subst hc2
                have e92 : lnOf n2 92 = n2 := rfl
                rw [e92]
                have hd3 := hk.mem2 (.list (signVs l)) (.attrs (netA n2 (.ref fp) pb))
                have hx3 := (hR (.list (signVs l)) (.attrs (netA n2 (.ref fp) pb))).x
                repeat walk_at "s"
                refine gm_read W (.tail _ (.tail _ (.tail _ hx3))) (.tail _ (.tail _ (.tail _ hd3))) ?_
                repeat walk_at "s"
                refine WPC.of_code (fRead_fn W _) ?_
                cases l with
                | nil =>
                  refine sp_read0 W (hr'.mono (by decide)) (((hR _ _).cons _).cons _ |>.cons _) (.tail _ (.tail _ (.tail _ (hk.mem1 _ _)))) (.tail _ (.tail _ (.tail _ hd3))) ?_
                  rw [tGo_e0] at hg
                  repeat walk_at "s"
                  refine ⟨rfl, [], [], n2, Nat.le_refl _, by simp, ?_, by rw [mkS_nil]⟩
                  rw [← hg]; rfl
                | cons d ds =>
                  refine sp_read (K := fun u v => GF a L x I m "" (some (.str (sg 92))) (ciObj m tk) (K u v)) W (hr'.mono (by decide)) (((hR _ _).cons _).cons _ |>.cons _) (.tail (.tail (.tail (hk.re _ _)))) (by simp at hli; lia) (((hR _ _).cons _).cons _ |>.cons _) ?_
                  rw [tGo_e] at hg
                  repeat walk_at "s"
                  exact ⟨rfl, ds, [d], lnOf n2 d, by simp, by simp, hg, rfl⟩
              · have hc2 : c ≠ 92 := by simpa using h92
                rw [tGo_b hw' hc hc2] at hg
                repeat walk_at "s"
                exact ⟨rfl, l, [c], lnOf n2 c, Nat.le_refl _, by simp, hg, rfl⟩
            · rintro H₁ ⟨l2, t2, n3, hl2, ht2, hg2, rfl⟩
              repeat walk_at "s"
              rw [mkS_nil]
              refine iop_add_str (by simp [Str.length] at ht2 ⊢; lia) ?_
              rw [mkS_app, List.nil_append]
              repeat walk_at "s"
              refine wp1_ForE I (fun j H₁ => RdW l2.length tok cs' n' a L x I m tk K fp pb j H₁ ∨ RdB tok cs' n' a L x I m K fp pb H₁) (l2.length + 1) ?_ ?_ ?_
              · rintro j H₁ s (⟨l3, t3, n4, ch, _, _, _, rfl⟩ | ⟨ch, rfl⟩) R
                · exact ci_self rfl (.head _) R
                · exact ci_self rfl (.head _) R
              · repeat walk_at "s"
                exact ⟨rfl, .inl ⟨l2, t2, n3, _, Nat.le_refl _, by lia, hg2, rfl⟩⟩
              · rintro j H₁ hj (⟨l3, t3, n4, ch, hlj, htl, hq, rfl⟩ | ⟨ch, rfl⟩)
                · cases l3 with
                  | nil =>
                    refine nx_eof W hR4 hk hR ?_
                    rw [show bGo t3 [] n4 = (t3, [], n4) from rfl] at hq
                    simp only [Prod.mk.injEq] at hq
                    obtain ⟨rfl, rfl, rfl⟩ := hq
                    repeat walk_at "s"
                    exact .inr ⟨_, rfl⟩
                  | cons c l3 =>
                    refine nx_sign W hR4 hk hR (by simp at hlj hli; lia) ⟨by simp at hlj; lia, ?_⟩
                    have hd3 := hk.mem2 (.list (signVs l3)) (.attrs (netA (lnOf n4 c) (.ref fp) pb))
                    have hx3 := (hR (.list (signVs l3)) (.attrs (netA (lnOf n4 c) (.ref fp) pb))).x
                    repeat walk_at "s"
                    refine ga_ws W (.tail _ (.tail _ (.tail _ hx3))) (.tail _ (.tail _ (.tail _ hd3))) ?_
                    refine op_in_str ?_
                    rw [ws_in]
                    repeat walk_at "s"
                    refine ⟨fun hw2 => ?_, fun hw2 => ?_⟩
                    · rw [bGo_w hw2] at hq
                      simp only [Prod.mk.injEq] at hq
                      obtain ⟨rfl, rfl, rfl⟩ := hq
                      repeat walk_at "s"
                      exact ⟨_, .drop (.drop (.drop (.refl _))), q⟩
                    · have hw3 : isW c = false := by simpa using hw2
                      repeat walk_at "s"
                      rw [sg_is c 92 b_sign]
                      refine ⟨fun h92 => ?_, fun h92 => ?_⟩
                      · have hc2 : c = 92 := by simpa using h92
                        subst hc2
                        have e92 : lnOf n4 92 = n4 := rfl
                        rw [e92] at hd3 hx3 ⊢
                        repeat walk_at "s"
                        refine gm_read W (.tail _ (.tail _ (.tail _ hx3))) (.tail _ (.tail _ (.tail _ hd3))) ?_
                        repeat walk_at "s"
                        refine WPC.of_code (fRead_fn W _) ?_
                        cases l3 with
                        | nil =>
                          refine sp_read0 W (hr'.mono (by decide)) (((hR _ _).cons _).cons _ |>.cons _) (.tail _ (.tail _ (.tail _ (hk.mem1 _ _)))) (.tail _ (.tail _ (.tail _ hd3))) ?_
                          rw [bGo_e0] at hq
                          repeat walk_at "s"
                          rw [mkS_nil]
                          refine iop_add_str (by simp [Str.length] at htl hli ⊢; lia) ?_
                          rw [mkS_app, List.append_nil]
                          repeat walk_at "s"
                          exact .inl ⟨[], t3, n4, _, by simp at hlj ⊢; lia, by simp at htl ⊢; exact Nat.le_add_right_of_le htl, hq, rfl⟩
                        | cons d ds =>
                          refine sp_read (K := fun u v => GF a L x I m (mkS t3) (some (.str (sg 92))) (ciObj m tk) (K u v)) W (hr'.mono (by decide)) (((hR _ _).cons _).cons _ |>.cons _) (.tail (.tail (.tail (hk.re _ _)))) (by simp at htl hli; lia) (((hR _ _).cons _).cons _ |>.cons _) ?_
                          rw [bGo_e] at hq
                          repeat walk_at "s"
                          refine iop_add_str (by simp [Str.length] at htl hli ⊢; lia) ?_
                          rw [mkS_app]
                          repeat walk_at "s"
                          exact .inl ⟨ds, t3 ++ [d], lnOf n4 d, _, by simp at hlj ⊢; lia, by simp at htl ⊢; lia, hq, rfl⟩
                      · have hc2 : c ≠ 92 := by simpa using h92
                        rw [bGo_b hw3 hc2] at hq
                        repeat walk_at "s"
                        refine iop_add_str (by simp [Str.length] at htl hli ⊢; lia) ?_
                        rw [mkS_app]
                        repeat walk_at "s"
                        exact .inl ⟨l3, t3 ++ [c], lnOf n4 c, _, by simp at hlj; lia, by simp at htl ⊢; lia, hq, rfl⟩
                · refine nx_end hA (.head _) ?_
                  repeat walk_at "s"
                  exact .inr ⟨_, rfl⟩
    · refine nx_end hA (.head _) ?_
      repeat walk_at "s"
      exact ⟨_, .drop (.drop (.drop (.refl _))), q⟩
end
end
noncomputable section
noncomputable def F_lam0 : FnA := lfn "_law_stream.<locals>.<lambda>" [] (nth (cbody (nth PW.main.body 13)) 0)
theorem lamQual : F_stream.qual ++ ".<locals>." ++ "<lambda>" = ("_law_stream.<locals>.<lambda>" : Str) := by decide +kernel
section
variable {C : Cfg} {a : Ad} {A : Around} {H H' : AH} {Q : V → AH → Prop}
theorem sp_stream {ll : Addr} (W : W3 C a) (hr : Room A 2) (hT : (a.pStream, AO.tab "_law_stream.<locals>.<lambda>") ∈ H)
    (q : ∀ fd fp rd cl, Q (.ref fp) ((fd, .attrs [("read", .ref rd)]) :: (fp, .fobj fd) :: (rd, .fn (F_lam [("left", cl)])) :: (cl, .cell (some (.ref ll))) :: H)) :
    WPC C A (.ref a.stream) [.ref ll] Q H := by
  have G := W.G
  obtain ⟨c, hF, hC⟩ := W.stream
  refine call_okC ok_stream G (fun s R => hF.keeps R.keep) hr rfl rfl rfl (vals := [none]) rfl (VOk.get (.rest rfl)) fun L cs A' env hcs hr' FE he => ?_
  obtain ⟨c1, rfl⟩ := cells1 hcs
  refine ⟨_, .param .head .nil, ?_⟩
  have hA := hr'.hd
  simp only [List.cons_append, List.nil_append]
  repeat walk_at "s"
  refine wp_LambdaF F_lam0 (q := "_law_stream.<locals>.<lambda>") (cl := []) G (by rw [he]; rfl) hC (by rw [he]; rfl) (by walk_at "mem") (closure_of (fs := []) (cs := []) FE (by decide +kernel) rfl (List.forall_mem_nil _)) ?_ (by rw [he]; exact lamQual)
  intro fp
  repeat walk_at "s"
  refine wp1_Assign ?_
  refine wp_LambdaF (F_lam [("left", c1)]) (q := "_law_stream.<locals>.<lambda>") G (by rw [he]; rfl) hC (by rw [he]; rfl) (by walk_at "mem") (closure_of (fs := ["left"]) (cs := [c1]) FE (by decide +kernel) rfl (by simp)) ?_ (by rw [he]; exact lamQual)
  intro rd
  refine asg_Attribute ?_
  repeat walk_at "s"
  refine sa_fn fs_read (by walk_at "mem") ?_
  intro d
  refine ⟨_, by walk_at "upd", ?_⟩
  repeat walk_at "s"
  refine ⟨(d, .attrs [("read", .ref rd)]) :: (fp, .fobj d) :: (rd, .fn (F_lam [("left", c1)])) :: (c1, .cell (some (.ref ll))) :: H, ?_, q _ _ _ _⟩
  refine .pick .head ?_
  refine .pick (.tail .head) (.pick .head (.pick .head (by walk_at "sub")))
theorem empty_len : ("" : Str).length = 0 := by decide +kernel
noncomputable def wz (n : Int) (ls : List Nat) : List Nat := (if n < 0 then 34 else 10) :: ls
theorem strs1 (ls : List Nat) : ls.map (fun k => V.str (mkS [k])) = ((ls.map fun c => [c]).map mkS).map V.str := by simp
theorem sp_word2 {n : Int} {v : V} {ls : List Nat} (W : W3 C a) (hr : Room A 2) (hls : ∀ k ∈ ls, k < 0x110000) (hz : ls.length ≤ 1000)
    (hp : ∀ {A' : Around} {py : Pos} {y : Str} {H' : AH} {QI : Cfg → (Nat → AH → Option V → Prop) → AH → Prop}, A'.handled = none → (∀ a x, (a, x) ∈ H → (a, x) ∈ H') → (∀ Item, (∀ (i : Nat) x H₁, (∀ a x, (a, x) ∈ H → (a, x) ∈ H₁) → (natVs ls)[i]? = some x → Item i H₁ (some x)) → (∀ H₁, (∀ a x, (a, x) ∈ H → (a, x) ∈ H₁) → Item ls.length H₁ none) → QI C Item H') → PI C A' (.Name y py) v QI H')
    (q : Q (.str (mkS (wz n ls))) H) : WPC C A (.ref a.word) [.int n, v] Q H := by
  have G := W.G
  obtain ⟨cd, hF⟩ := W.word
  refine call_ok ok_word G (fnAt_of_base hF) hr rfl rfl (by walk_at "init") rfl rfl fun L cd A' env hr' hD FE he => ?_
  have hA := hr'.hd
  refine wps_cons (wp1_Return (wp_BinOp (WP.pin (.str (mkS [if n < 0 then 34 else 10])) ?_ ?_)))
  · repeat walk_at "s"
    refine ⟨fun h => ?_, fun h => ?_⟩
    · have h' : n < 0 := of_decide_eq_true h
      repeat walk_at "s"
      exact ⟨by rw [if_pos h']; rfl, .refl _⟩
    · have h' : ¬ n < 0 := of_decide_eq_false h
      repeat walk_at "s"
      exact ⟨by rw [if_neg h']; rfl, .refl _⟩
  repeat walk_at "s"
  refine wpm_join ?_
  repeat walk_at "s"
  refine wp_LC (ln' := ["letter"]) (gn' := ["chr"]) (fs := []) (cs := []) FE (by kernel_rfl) (List.forall_mem_nil _) ?_
  refine wpi_value ?_
  repeat walk_at "s"
  refine hp hA (fun zz zz h => .tail _ h) fun Item hI hN b c cenv FE => ?_
  refine turns_map (ys := ls.map fun k => .str (mkS [k])) (xs := natVs ls) FE (by simp) (by simp; lia) (fun i x o acc h => hI i x _ (fun zz zz h => .tail _ (.tail _ (.tail _ h))) h) (fun o acc => by simpa using hN _ (fun zz zz h => .tail _ (.tail _ (.tail _ h)))) (fun i x v acc hx hv => ?_) fun o => ?_
  · simp only [List.getElem?_map, Option.map_eq_some_iff] at hx hv
    obtain ⟨k, hk, rfl⟩ := hx
    rw [hk] at hv
    simp only [Option.some.injEq, exists_eq_left'] at hv
    subst hv
    have hk2 := hls k (List.mem_of_getElem? hk)
    repeat walk_at "s"
    refine c_chr (by exact Int.natCast_nonneg k) (by lia) ?_
    rw [Int.toNat_natCast]
    exact ⟨rfl, .refl _⟩
  · refine ⟨_, _, .head, ?_⟩
    rw [strs1]
    repeat walk_at "s"
    refine c_join (by walk_at "mem") ?_ ?_
    · rw [sum_len, flat_one, empty_len, Nat.mul_zero]; simp; lia
    · rw [tjoin_mkS, flat_one]
      refine op_add_str (by rw [mkS_len, mkS_len]; simp; lia) ?_
      rw [mkS_app]
      repeat walk_at "s"
      exact ⟨H, by walk_at "sub", q⟩
end
end
noncomputable section
noncomputable abbrev wordL (n : Nat) : List Nat := (apL n).map UInt8.toNat
noncomputable def ownL (m : Nat) : Nat → List Nat
  | 0 => []
  | p + 1 => ownL (m / 16) p ++ [65 + m % 16]
theorem ownL_range (m p : Nat) : ((List.range p).map fun k => 65 + m / 2 ^ (4 * k) % 16).reverse = ownL m p := by
  induction p generalizing m with
  | zero => rfl
  | succ p ih =>
    rw [List.range_succ_eq_map, List.map_cons, List.reverse_cons, ownL, ← ih]
    simp only [List.map_map, Nat.mul_zero, Nat.pow_zero, Nat.div_one]
    congr 2
    refine List.map_congr_left fun k zz => ?_
    show 65 + m / 2 ^ (4 * (k + 1)) % 16 = 65 + m / 16 / 2 ^ (4 * k) % 16
    rw [Nat.div_div_eq_div_mul, show (16 : Nat) = 2 ^ 4 from rfl, ← Nat.pow_add, show 4 * (k + 1) = 4 + 4 * k by lia]
theorem ownL_eq (m p : Nat) (h1 : m < 16 ^ p) (h2 : p ≠ 0 → 16 ^ (p - 1) ≤ m) : ownL m p = wordL m := by
  induction p generalizing m with
  | zero =>
    have : m = 0 := by simpa using h1
    subst this
    simp [ownL, wordL, apL_zero]
  | succ p ih =>
    have hm := h2 (by simp)
    rw [Nat.add_sub_cancel] at hm
    have hpos : 0 < 16 ^ p := Nat.pow_pos (by decide)
    have h0 : m ≠ 0 := by (clear hm h1 ih; lia)
    rw [ownL, wordL, apL_pos h0, List.map_append, ih (m / 16) (Nat.div_lt_of_lt_mul (by rw [Nat.mul_comm, ← Nat.pow_succ]; exact h1)) (fun hp => ?_)]
    · have : (UInt8.ofNat (65 + m % 16)).toNat = 65 + m % 16 := by rw [UInt8.toNat_ofNat']; exact Nat.mod_eq_of_lt (by have := Nat.mod_lt m (show 0 < 16 by decide); lia)
      rw [List.map_cons, List.map_nil, this]
    · rw [Nat.le_div_iff_mul_le (by decide), ← Nat.pow_succ, Nat.succ_eq_add_one, Nat.sub_add_cancel (by exact Nat.one_le_iff_ne_zero.mpr hp)]
      exact hm
theorem own_word (n : Nat) : ownL n ((Builtin.Int.intBits (n : Int) + 3) / 4) = wordL n := by
  have hb : Builtin.Int.intBits (n : Int) = if n = 0 then 0 else Nat.log2 n + 1 := by
    unfold Builtin.Int.intBits
    simp
  by_cases h0 : n = 0
  · subst h0; rw [hb]; simp [ownL, wordL, apL_zero]
  rw [if_neg h0] at hb
  rw [hb]
  have l1 := Nat.log2_self_le h0
  have l2 := Nat.lt_log2_self (n := n)
  refine ownL_eq _ _ ?_ fun hp => ?_
  · rw [show (16 : Nat) = 2 ^ 4 from rfl, ← Nat.pow_mul]
    exact Nat.lt_of_lt_of_le l2 (Nat.pow_le_pow_right (by decide) (by lia))
  · rw [show (16 : Nat) = 2 ^ 4 from rfl, ← Nat.pow_mul]
    exact Nat.le_trans (Nat.pow_le_pow_right (by decide) (by rw [show n.log2 + 1 + 3 = n.log2 + 4 from rfl, Nat.add_div_right _ (by decide)]; exact Nat.mul_div_le _ 4)) l1
section
variable {C : Cfg} {a : Ad} {A : Around} {H H' : AH} {Q : V → AH → Prop}
theorem sp_wordB {n : Int} {b : Array UInt8} (W : W3 C a) (hr : Room A 2) (hz : b.size ≤ 1000) (q : Q (.str (mkS (wz n (b.toList.map UInt8.toNat)))) H) : WPC C A (.ref a.word) [.int n, .bytes b] Q H := by
  refine sp_word2 (ls := b.toList.map UInt8.toNat) W hr (fun k hk => ?_) (by simp; exact hz) (fun hA hH h => pi_bytes hA (h _ (fun i x H₁ zz e => ?_) fun H₁ zz => ?_)) q
  · obtain ⟨u, _, rfl⟩ := List.mem_map.mp hk
    have := UInt8.toNat_lt u; lia
  · simp only [List.getElem?_map, Option.map_eq_some_iff, Array.getElem?_toList] at e
    obtain ⟨_, ⟨u, hu, rfl⟩, rfl⟩ := e
    have hi := (Array.getElem?_eq_some_iff.mp hu)
    obtain ⟨hi, hu⟩ := hi
    simp [byteItem, fnItem, hi, hu]
  · simp [byteItem, fnItem]
theorem sp_wordL {n : Int} {l : Addr} {ls : List Nat} (W : W3 C a) (hr : Room A 2) (hls : ∀ k ∈ ls, k < 0x110000) (hz : ls.length ≤ 1000) (hl : (l, AO.list (natVs ls)) ∈ H) (q : Q (.str (mkS (wz n ls))) H) : WPC C A (.ref a.word) [.int n, .ref l] Q H :=
  sp_word2 (ls := ls) W hr hls hz (fun hA hH h => pi_list hA (hH _ _ hl) (h _ (fun i x H₁ hh e => listItem_some (hh _ _ hl) e) fun H₁ hh => listItem_none (hh _ _ hl) (by simp))) q
theorem apL_len : ∀ (k n : Nat), n < 16 ^ k → (apL n).length ≤ k
  | 0, n, h => by
    have : n = 0 := by simpa using h
    subst this; rw [apL_zero]; simp
  | k + 1, n, h => by
    by_cases h0 : n = 0
    · subst h0; rw [apL_zero]; simp
    · rw [apL_pos h0, List.length_append]
      have := apL_len k (n / 16) (by rw [Nat.pow_succ] at h; lia)
      simp; omega
theorem sp_own {n : Int} (W : W3 C a) (hr : Room A 3) (hn : n.natAbs < 16 ^ 100) (q : Q (.str (mkS (wz n (wordL n.natAbs)))) H) : WPC C A (.ref a.own) [.int n] Q H := by
  have G := W.G
  obtain ⟨cd, hF⟩ := W.own
  refine call_okC ok_own G (fun s R => hF.keeps R.keep) hr rfl rfl rfl (vals := [none]) rfl (VOk.get (.rest rfl)) fun L cs A' env hcs hr' FE he => ?_
  obtain ⟨c1, rfl⟩ := cells1 hcs
  refine ⟨_, .param .head .nil, ?_⟩
  have hA := hr'.hd
  have hbits : Builtin.Int.intBits (n.natAbs : Int) ≤ 400 := intBits_le (by rw [Int.natAbs_natCast]; exact Nat.lt_of_lt_of_le hn (by decide))
  simp only [List.cons_append, List.nil_append]
  repeat walk_at "s"
  refine c_abs ?_
  repeat walk_at "s"
  refine wpm_bitlen ?_
  repeat walk_at "s"
  refine c_bitlen ?_
  repeat walk_at "s"
  refine op_floordiv_int (by decide) (PyProof.noPylong_small (by decide)) ?_
  have e1 : ((Builtin.Int.intBits (n.natAbs : Int) : Nat) : Int) + 3 = ((Builtin.Int.intBits (n.natAbs : Int) + 3 : Nat) : Int) := by push_cast; rfl
  rw [e1, show ((Builtin.Int.intBits (n.natAbs : Int) + 3 : Nat) : Int).fdiv 4 = (((Builtin.Int.intBits (n.natAbs : Int) + 3) / 4 : Nat) : Int) from fdiv_nat _ 4]
  generalize hp : (Builtin.Int.intBits (n.natAbs : Int) + 3) / 4 = p
  have hp1 : p ≤ 1000 := by lia
  repeat walk_at "s"
  refine c_range1 ?_
  intro r t u v
  repeat walk_at "s"
  refine wp_LC (ln' := ["k"]) (gn' := ["abs"]) (fs := ["term"]) (cs := [c1]) FE (by kernel_rfl) (List.forall_mem_cons.mpr ⟨by walk_at "mem", List.forall_mem_nil _⟩) ?_
  refine wpi_value ?_
  repeat walk_at "s"
  refine pi_range (a := 0) (b := (p : Int)) hA (by decide) (by rw [Int.natAbs_natCast]; (clear hp e1 hbits hA he FE hcs hr' hF G q hn hr W; omega)) (by walk_at "mem") ?_
  have FE0 := FE
  intro b c cenv FE
  replace FE : FEnv cenv c ["k"] [("term", c1)] ["abs"] := FE
  refine turns_map (xs := natVs (List.range p)) (ys := natVs ((List.range p).map fun k => 65 + n.natAbs / 2 ^ (4 * k) % 16)) FE (by simp) (by simp; omega) (fun i x o acc h => ?_) (fun o acc => ?_) (fun i x v acc hx hv => ?_) fun o => ?_
  · simp only [List.getElem?_map, Option.map_eq_some_iff] at h
    obtain ⟨k, hk, rfl⟩ := h
    obtain ⟨hk1, rfl⟩ := List.getElem?_eq_some_iff.mp hk
    rw [List.length_range] at hk1
    rw [List.getElem_range]
    exact range_some (by exact Int.ofNat_lt.mpr hk1)
  · refine range_none ?_
    simp
  · simp only [List.getElem?_map, Option.map_eq_some_iff] at hx hv
    obtain ⟨k, hk, rfl⟩ := hx
    rw [hk] at hv
    simp only [Option.some.injEq, exists_eq_left'] at hv
    subst hv
    have hk1 : k < p := by have := List.mem_of_getElem? hk; simpa using this
    repeat walk_at "s"
    refine c_abs ?_
    repeat walk_at "s"
    refine op_mul_int (mulOk (k := 10) (l := 20) (by decide) (by rw [Int.natAbs_natCast]; lia) (by decide)) ?_
    refine op_rshift_int (by exact Int.zero_le_ofNat (4 * k)) ?_
    repeat walk_at "s"
    refine op_mod_int (by decide) ?_
    have e2 : ((4 : Int) * (k : Int)).toNat = 4 * k := by exact Nat.add_zero (Nat.mul 4 k)
    have e3 : (2 : Int) ^ (4 * k) = ((2 ^ (4 * k) : Nat) : Int) := by push_cast; rfl
    rw [e2, e3, fdiv_nat, show ((n.natAbs / 2 ^ (4 * k) : Nat) : Int).fmod 16 = ((n.natAbs / 2 ^ (4 * k) % 16 : Nat) : Int) from fmod_nat _ 16]
    repeat walk_at "s"
    exact ⟨by push_cast; rfl, .refl _⟩
  · refine ⟨_, _, .head, ?_⟩
    have FE := FE0
    repeat walk_at "s"
    refine gs_list (by walk_at "mem") (by decide) (by simp; omega) ?_
    intro b2
    rw [pySlice_rev, ← List.map_reverse, ownL_range]
    repeat walk_at "s"
    rw [← hp, own_word]
    refine sp_wordL W hr' (fun k hk => ?_) (by have := apL_len 100 n.natAbs hn; simp; lia) (.head _) ?_
    · obtain ⟨u, _, rfl⟩ := List.mem_map.mp hk
      have := UInt8.toNat_lt u; lia
    repeat walk_at "s"
    exact ⟨H, by walk_at "sub", q⟩
end
end
noncomputable section
theorem neg_divmod {x : Int} {y : Nat} (hx : x < 0) (hy : 0 < y) : ((-x - 1).toNat / y : Nat) = -(x / y) - 1 ∧ ((-x - 1).toNat % y : Nat) = (y : Int) - 1 - x % y := by
  have e : (((-x - 1).toNat : Nat) : Int) = -x - 1 := by lia
  have h1 := Nat.div_add_mod (-x - 1).toNat y
  have h2 := Nat.mod_lt (-x - 1).toNat hy
  generalize (-x - 1).toNat / y = q at h1 ⊢
  generalize (-x - 1).toNat % y = r at h1 h2 ⊢
  have h3 : x = (y : Int) * (-(q : Int) - 1) + ((y : Int) - 1 - r) := by
    have : ((y * q + r : Nat) : Int) = -x - 1 := by rw [h1, e]
    push_cast at this
    rw [Int.mul_sub, Int.mul_neg, Int.mul_one]
    lia
  have h4 : x / (y : Int) = -(q : Int) - 1 ∧ x % (y : Int) = (y : Int) - 1 - r := by
    have hd := Int.ediv_emod_unique (a := x) (b := (y : Int)) (r := (y : Int) - 1 - r) (q := -(q : Int) - 1) (by exact Int.natCast_pos.mpr hy)
    exact hd.mpr ⟨by lia, by lia, by lia⟩
  rw [h4.1, h4.2]
  lia
section
variable {C : Cfg} {a : Ad} {A : Around} {H H' : AH} {Q : V → AH → Prop}
theorem sp_divmodP (W : W3 C a) (hT : (a.pI2d, AO.tab "_int2digits.<locals>.inner") ∈ H) (hT2 : (a.pD2i, AO.tab "_digits2int.<locals>.inner") ∈ H) {x : Int} {y : Nat} (hr : Room A 24) (hy : 0 < y) (hx : x.natAbs < 2 ^ 2999) (hyb : y < 2 ^ 3000)
    (q : Q (.tup [.int (x / y), .int (x % y)]) H) : WPC C A (.ref a.idm) [.int x, .int y] Q H := by
  by_cases h0 : x < 0
  · have G := W.G
    obtain ⟨cd, hF⟩ := W.idm
    refine call_ok ok_int_divmod G (fnAt_of_base hF) hr rfl rfl (by walk_at "init") rfl rfl fun L cd A' env hr' hD FE he => ?_
    have hA := hr'.hd
    repeat walk_at "s"
    refine ⟨fun h => absurd h (by simp; exact Nat.ne_zero_of_lt hy), fun zz => ?_⟩
    repeat walk_at "s"
    refine ⟨fun h => absurd h (by simp), fun zz => ?_⟩
    repeat walk_at "s"
    refine ⟨fun zz => ?_, fun h => absurd h0 (of_decide_eq_false h)⟩
    repeat walk_at "s"
    refine wp1_Assign ?_
    repeat walk_at "s"
    refine op_inv_int ?_
    rw [show Builtin.bitNot x = (((-x - 1).toNat : Nat) : Int) from by show -x - 1 = _; lia]
    repeat walk_at "s"
    have hx2 : (-x - 1).toNat < 2 ^ 3000 := Nat.lt_of_le_of_lt (by omega) (Nat.lt_of_lt_of_le hx (Nat.pow_le_pow_right (by decide) (by decide)))
    refine sp_int_divmod W (by walk_at "mem") (by walk_at "mem") (hr'.mono (by decide)) hy hx2 hyb ?_
    obtain ⟨d1, d2⟩ := neg_divmod h0 hy
    rw [d1, d2]
    refine asg_Tuple hA (wpas_cons ?_)
    repeat walk_at "s"
    refine wpas_cons ?_
    repeat walk_at "s"
    refine wpas_nil ?_
    repeat walk_at "s"
    refine op_inv_int ?_
    repeat walk_at "s"
    refine op_inv_int ?_
    repeat walk_at "s"
    refine ⟨H, by walk_at "sub", ?_⟩
    have f1 : Builtin.bitNot (-(x / (y : Int)) - 1) = x / y := by show -(-(x / (y : Int)) - 1) - 1 = _; lia
    have f2 : (y : Int) + Builtin.bitNot ((y : Int) - 1 - x % y) = x % y := by show (y : Int) + (-((y : Int) - 1 - x % y) - 1) = _; lia
    show Q (.tup [.int _, .int _]) H
    rw [f1, f2]
    exact q
  · have e : x = ((x.toNat : Nat) : Int) := (Int.toNat_of_nonneg (Int.not_lt.mp (by assumption))).symm
    rw [e] at q ⊢
    exact sp_int_divmod W hT hT2 (hr.mono (by decide)) hy (Nat.lt_of_le_of_lt (by lia) (Nat.lt_of_lt_of_le hx (Nat.pow_le_pow_right (by decide) (by decide)))) hyb q
theorem sp_divmodN (W : W3 C a) (hT : (a.pI2d, AO.tab "_int2digits.<locals>.inner") ∈ H) (hT2 : (a.pD2i, AO.tab "_digits2int.<locals>.inner") ∈ H) {x : Int} {y : Nat} (hr : Room A 25) (hy : 0 < y) (hx : x.natAbs < 2 ^ 2999) (hyb : y < 2 ^ 3000)
    (q : Q (.tup [.int (x / y), .int (-(x % y))]) H) : WPC C A (.ref a.idm) [.int (-x), .int (-(y : Int))] Q H := by
  have G := W.G
  obtain ⟨cd, hF⟩ := W.idm
  refine call_ok ok_int_divmod G (fnAt_of_base hF) hr rfl rfl (by walk_at "init") rfl rfl fun L cd A' env hr' hD FE he => ?_
  have hA := hr'.hd
  repeat walk_at "s"
  refine ⟨fun h => absurd h (by simp; exact Nat.ne_zero_of_lt hy), fun zz => ?_⟩
  repeat walk_at "s"
  refine ⟨fun zz => ?_, fun h => absurd h (by simp; exact Nat.ne_zero_of_lt hy)⟩
  repeat walk_at "s"
  refine wp1_Assign ?_
  repeat walk_at "s"
  rw [Int.neg_neg, Int.neg_neg]
  refine sp_divmodP W (by walk_at "mem") (by walk_at "mem") (hr'.mono (by decide)) hy hx hyb ?_
  refine asg_Tuple hA (wpas_cons ?_)
  repeat walk_at "s"
  refine wpas_cons ?_
  repeat walk_at "s"
  refine wpas_nil ?_
  repeat walk_at "s"
  exact ⟨H, by walk_at "sub", q⟩
end
end
noncomputable section
theorem d2i_word (m : Nat) : d2i 4 (((wordL m).map fun (c : Nat) => (c : Int) - 65).reverse) = (m : Int) := by
  induction m using Nat.strongRecOn with
  | _ m ih =>
    by_cases h : m = 0
    · subst h; simp [wordL, apL_zero, d2i]
    · have hm : m % 16 < 16 := Nat.mod_lt _ (by decide)
      have hu : (UInt8.ofNat (65 + m % 16)).toNat = 65 + m % 16 := by rw [UInt8.toNat_ofNat']; exact Nat.mod_eq_of_lt (by lia)
      rw [wordL, apL_pos h, List.map_append, List.map_append, List.reverse_append, List.map_cons, List.map_nil, hu]
      simp only [List.map_cons, List.map_nil, List.reverse_cons, List.reverse_nil, List.nil_append, List.cons_append, d2i]
      rw [ih (m / 16) (by lia)]
      lia
theorem wz_len (n : Int) (ls : List Nat) : (wz n ls).length = ls.length + 1 := rfl
theorem wordL_lt {m c : Nat} (h : c ∈ wordL m) : c < 256 := by
  obtain ⟨u, _, rfl⟩ := List.mem_map.mp h
  exact UInt8.toNat_lt u
theorem sign_some {l : List Nat} {i k : Nat} {H : AH} (h : l[i]? = some k) : signItem (mkS l) i H (some (.str (sg k))) := by
  obtain ⟨hi, rfl⟩ := List.getElem?_eq_some_iff.mp h
  simp [signItem, fnItem, mkS_len, hi]
theorem sign_none {l : List Nat} {H : AH} : signItem (mkS l) l.length H none := by
  simp [signItem, fnItem, mkS_len]
end
noncomputable section
noncomputable def zw (z : Int) : List Nat := wz z (wordL z.natAbs)
theorem fdiv_le (x d : Int) : (x.fdiv d).natAbs ≤ x.natAbs := by
  by_cases h : d < 0
  · have e : d = -((d.natAbs : Nat) : Int) := by omega
    rw [e, ← Int.neg_fdiv_neg, Int.neg_neg, Int.fdiv_eq_ediv_of_nonneg _ (Int.natCast_nonneg _), ← Int.natAbs_neg x]
    exact Int.natAbs_ediv_le_natAbs _ _
  · rw [Int.fdiv_eq_ediv_of_nonneg _ (Int.not_lt.mp h)]; exact Int.natAbs_ediv_le_natAbs _ _
noncomputable def settleF (p q r s : Int) : Option (Int × Int × Int) :=
  if r = 0 then none else if r + s = 0 then none else if p.fdiv r ≠ (p + q).fdiv (r + s) ∨ r * (r + s) < 0 then none
  else some (p.fdiv r, p.fmod r, (p + q).fmod (r + s) - p.fmod r)
noncomputable abbrev boxA (p q r s : Int) (t : Int) (f : Bool) : AO := .list [.tup [.int p, .int q, .int r, .int s], .int t, .bool f]
structure Tabs (a : Ad) (H : AH) : Prop where
  i2d : (a.pI2d, AO.tab "_int2digits.<locals>.inner") ∈ H
  d2i : (a.pD2i, AO.tab "_digits2int.<locals>.inner") ∈ H
theorem Tabs.to {a : Ad} {H H' : AH} (h : Tabs a H) (k : ∀ p ∈ H, p ∈ H') : Tabs a H' := ⟨k _ h.i2d, k _ h.d2i⟩
section
variable {C : Cfg} {a : Ad} {A : Around} {H H' : AH} {Q : V → AH → Prop} {l : List Env} {Y : AH → Prop}
theorem sp_dm (W : W3 C a) (hT : Tabs a H) {x d : Int} (hr : Room A 25) (hd : d ≠ 0) (hx : x.natAbs < 2 ^ 2999) (hdb : d.natAbs < 2 ^ 2999) (q : Q (.tup [.int (x.fdiv d), .int (x.fmod d)]) H) : WPC C A (.ref a.idm) [.int x, .int d] Q H := by
  have hl : ∀ {n : Nat}, n < 2 ^ 2999 → n < 2 ^ 3000 := fun h => Nat.lt_trans h (Nat.pow_lt_pow_right (by decide) (by decide))
  rcases Int.lt_or_gt_of_ne hd with h | h
  · have e : d = -((d.natAbs : Nat) : Int) := by (clear hl q hdb hx hd hr hT W; omega)
    have hy : 0 < d.natAbs := Int.natAbs_pos.mpr hd
    rw [e] at q ⊢
    generalize d.natAbs = y at hy hdb q ⊢
    have h1 : x.fdiv (-(y : Int)) = (-x) / y := by rw [← Int.fdiv_eq_ediv_of_nonneg _ (Int.natCast_nonneg y), ← Int.neg_fdiv_neg, Int.neg_neg]
    have h2 : x.fmod (-(y : Int)) = -((-x) % y) := by
      have e1 := Int.mul_fdiv_add_fmod x (-(y : Int))
      have e2 := Int.mul_ediv_add_emod (-x) y
      rw [h1, Int.neg_mul] at e1
      (clear h1 q hdb hy e h hl hx hd hr hT W; omega)
    rw [h1, h2] at q
    have := sp_divmodN (x := -x) W hT.i2d hT.d2i hr hy (by rw [Int.natAbs_neg]; exact hx) (hl hdb) q
    rw [Int.neg_neg] at this
    exact this
  · have e : d = ((d.natAbs : Nat) : Int) := by (clear hl q hdb hx hd hr hT W; lia)
    have hy : 0 < d.natAbs := Int.natAbs_pos.mpr hd
    rw [e] at q ⊢
    rw [Int.fdiv_eq_ediv_of_nonneg _ (Int.natCast_nonneg _), Int.fmod_eq_emod_of_nonneg _ (Int.natCast_nonneg _)] at q
    exact sp_divmodP W hT.i2d hT.d2i (hr.mono (by decide)) hy hx (hl hdb) q
theorem sp_dm0 (W : W3 C a) {x : Int} (hr : Room A 1) (hfr : A.frames = some l) (K : Stk l H) (y : ∀ H₁, (∀ p ∈ H, p ∈ H₁) → Sub H H₁ → Y H₁) : WPCR C A l Y (.ref a.idm) [.int x, .int 0] H := by
  have G := W.G
  obtain ⟨cd, hF⟩ := W.idm
  refine raise_ok ok_int_divmod G (fnAt_of_base hF) hr hfr K rfl rfl (by walk_at "init") rfl rfl fun L cd A' env hr' hD FE => ?_
  have hA := hr'.hd
  refine wx_cons (wx_If ?_)
  repeat walk_at "s"
  refine ⟨rfl, wx_cons (wx_raise G FE hA (by walk_at "mem") (by walk_at "mem") ⟨fun p h => .tail _ h, ⟨_, .head _⟩, y _ (fun p h => .tail _ h) (.drop (.refl _))⟩)⟩
theorem zw_len {z : Int} (h : z.natAbs < 16 ^ 100) : (zw z).length ≤ 101 := by
  have := apL_len 100 _ h
  rw [zw, wz_len, wordL, List.length_map]; exact Nat.succ_le_succ this
theorem sp_settle {bx x dx pb : Addr} {n : Int} {fp : V} {p q r s t : Int} {f : Bool} {ws : List (List Nat)} {K : AO → AO → AH} (W : W3 C a) (hr : Room A 27) (hfr : A.frames = some l) (hS : Stk l H) (hk : Hole2 bx (boxA p q r s t f) pb (.list (strVs ws)) H K)
    (hx : ∀ u v, (x, AO.obj (instObj a.cls dx)) ∈ K u v) (hd : ∀ u v, (dx, AO.attrs (netA n fp pb)) ∈ K u v) (hT : Tabs a H) (hp : p.natAbs < 2 ^ 200) (hq : q.natAbs < 2 ^ 200) (hrb : r.natAbs < 2 ^ 200) (hs : s.natAbs < 2 ^ 200) (hz : ws.length ≤ 10000)
    (h0 : settleF p q r s = none → Q (.bool false) H) (h1 : ∀ u v w, settleF p q r s = some (u, v, w) → Q (.bool true) (K (boxA r s v w t f) (.list (strVs (ws ++ [zw u]))))) :
    WPC C A (.ref a.settle) [.ref bx, .ref x] Q H := by
  have G := W.G
  obtain ⟨cd, hF⟩ := W.settle
  have e := hk.eq
  subst e
  have hx0 := hx (boxA p q r s t f) (.list (strVs ws))
  have hd0 := hd (boxA p q r s t f) (.list (strVs ws))
  have hb0 := hk.mem1 (boxA p q r s t f) (.list (strVs ws))
  refine call_okF ok_settle G (fnAt_of_base hF) hr hfr rfl rfl (by walk_at "init") rfl rfl fun L cd A' env hr' hfr' hfL hkd hD FE he => ?_
  have hA := hr'.hd
  repeat walk_at "s"
  refine wp1_Assign ?_
  repeat walk_at "s"
  refine gi_list (.tail _ hb0) (by decide) (by rfl) (Nat.le_of_ble_eq_true rfl) ?_
  refine asg_Tuple hA (wpas_cons ?_)
  repeat walk_at "s"
  refine wpas_cons ?_
  repeat walk_at "s"
  refine wpas_cons ?_
  repeat walk_at "s"
  refine wpas_cons ?_
  repeat walk_at "s"
  refine wpas_nil ?_
  repeat walk_at "s"
  have hS' : ∀ vals, Stk (env :: l) ((L, .ns ["box", "line", "p", "q", "r", "s", "term", "rest", "other", "more"] vals) :: K (boxA p q r s t f) (.list (strVs ws))) := fun vals => hS.cons hkd hfL
  have hT' : ∀ vals, Tabs a ((L, .ns ["box", "line", "p", "q", "r", "s", "term", "rest", "other", "more"] vals) :: K (boxA p q r s t f) (.list (strVs ws))) := fun vals => hT.to fun p h => .tail _ h
  have big : (2 : Nat) ^ 200 + 2 ^ 200 ≤ 2 ^ 2999 := Nat.le_trans (Nat.le_of_eq (by decide : (2 : Nat) ^ 200 + 2 ^ 200 = 2 ^ 201)) (Nat.pow_le_pow_right (by decide) (by decide))
  have hp9 : p.natAbs < 2 ^ 2999 := Nat.lt_of_lt_of_le hp (Nat.le_trans (Nat.le_add_left _ _) big)
  have hr9 : r.natAbs < 2 ^ 2999 := Nat.lt_of_lt_of_le hrb (Nat.le_trans (Nat.le_add_left _ _) big)
  have hpq9 : (p + q).natAbs < 2 ^ 2999 := Nat.lt_of_le_of_lt (Int.natAbs_add_le _ _) (Nat.lt_of_lt_of_le (Nat.add_lt_add hp hq) big)
  have hrs9 : (r + s).natAbs < 2 ^ 2999 := Nat.lt_of_le_of_lt (Int.natAbs_add_le _ _) (Nat.lt_of_lt_of_le (Nat.add_lt_add hrb hs) big)
  by_cases r0 : r = 0
  · subst r0
    refine wp1_Try_raisedS FE G hfr' hfL (by walk_at "mem") (by walk_at "mem") (wr_cons (wr_Assign (wr_tuple1 (wr_Call ?_)))) fun e => ?_
    · repeat walk_at "s"
      exact sp_dm0 W (hr'.mono (by decide)) hfr' (hS' _) fun H₁ zz y => y
    · repeat walk_at "s"
      exact ⟨_, by walk_at "sub", h0 (by simp [settleF])⟩
  by_cases rs0 : r + s = 0
  · refine wp1_Try_raisedS FE G hfr' hfL (by walk_at "mem") (by walk_at "mem") (wr_cons (wr_Assign (wr_tuple2 ?_))) fun e => ?_
    · repeat walk_at "s"
      refine sp_dm W (hT' _) (hr'.mono (by decide)) r0 hp9 hr9 ?_
      refine wr_Call ?_
      repeat walk_at "s"
      rw [rs0]
      exact sp_dm0 W (hr'.mono (by decide)) hfr' (hS' _) fun H₁ zz y => y
    · repeat walk_at "s"
      exact ⟨_, by walk_at "sub", h0 (by simp [settleF, r0, rs0])⟩
  have hset : settleF p q r s = if p.fdiv r ≠ (p + q).fdiv (r + s) ∨ r * (r + s) < 0 then none else some (p.fdiv r, p.fmod r, (p + q).fmod (r + s) - p.fmod r) := by rw [settleF, if_neg r0, if_neg rs0]
  refine wp1_Try_ok (wps_cons (wp1_Assign (hw := noswapT) ?_))
  repeat walk_at "s"
  refine sp_dm W (hT' _) (hr'.mono (by decide)) r0 hp9 hr9 ?_
  repeat walk_at "s"
  refine sp_dm W (hT' _) (hr'.mono (by decide)) rs0 hpq9 hrs9 ?_
  repeat walk_at "s"
  refine asg_Tuple hA (wpas_cons ?_)
  dsimp only
  refine asg_Tuple hA (wpas_cons ?_)
  repeat walk_at "s"
  refine wpas_cons ?_
  repeat walk_at "s"
  refine wpas_nil ?_
  refine wpas_cons ?_
  dsimp only
  refine asg_Tuple hA (wpas_cons ?_)
  repeat walk_at "s"
  refine wpas_cons ?_
  repeat walk_at "s"
  refine wpas_nil ?_
  refine wpas_nil ?_
  repeat walk_at "s"
  have hu : (p.fdiv r).natAbs < 2 ^ 200 := Nat.lt_of_le_of_lt (fdiv_le p r) hp
  refine ⟨fun h => ?_, fun h => ?_⟩
  · refine ⟨fun zz => ?_, fun h => nomatch h⟩
    repeat walk_at "s"
    exact ⟨_, by walk_at "sub", h0 (by rw [hset, if_pos (.inl (by simpa using h))])⟩
  have he1 : p.fdiv r = (p + q).fdiv (r + s) := by simpa using h
  repeat walk_at "s"
  refine op_mul_int (mulOk (k := 200) (l := 201) hrb (Nat.lt_of_le_of_lt (Int.natAbs_add_le _ _) (Nat.lt_of_lt_of_le (Nat.add_lt_add hrb hs) (Nat.le_of_eq (by decide)))) (by decide)) ?_
  repeat walk_at "s"
  refine ⟨fun h2 => ?_, fun h2 => ?_⟩
  · refine ⟨fun zz => ?_, fun h => nomatch h⟩
    repeat walk_at "s"
    exact ⟨_, by walk_at "sub", h0 (by rw [hset, if_pos (.inr (of_decide_eq_true h2))])⟩
  have he2 := of_decide_eq_false h2
  have hq1 := h1 _ _ _ (by rw [hset, if_neg (fun h => h.elim (fun h => h he1) he2)])
  repeat walk_at "s"
  refine ⟨fun h => (nomatch h), fun zz => ?_⟩
  repeat walk_at "s"
  refine wp1_Assign ?_
  repeat walk_at "s"
  refine asg_Subscript ?_
  repeat walk_at "s"
  refine set_list (vs := [.tup [.int p, .int q, .int r, .int s], .int t, .bool f]) (.tail (hk.upd1 _ (boxA r s (p.fmod r) ((p + q).fmod (r + s) - p.fmod r) t f) _)) (by decide) (by decide : (0 : Int) < 3) (Nat.le_of_ble_eq_true rfl) ?_
  repeat walk_at "s"
  refine gm_push W (.tail _ (hx _ _)) (.tail _ (hd _ _)) ?_
  repeat walk_at "s"
  refine sp_Int2AP W (hr'.mono (by decide)) (Nat.lt_of_lt_of_le hu (by decide)) ?_
  repeat walk_at "s"
  have h16 : (p.fdiv r).natAbs < 16 ^ 100 := Nat.lt_of_lt_of_le hu (by decide)
  refine sp_wordB W (hr'.mono (by decide)) (Nat.le_trans (apL_len 100 _ h16) (by decide)) ?_
  repeat walk_at "s"
  refine sp_push W (hr'.mono (by decide)) (.tail _ (hx _ _)) (.tail _ (hd _ _)) (.tail (hk.upd2 _ _ _)) (by rw [List.length_map]; exact Nat.le_trans hz (by decide)) ?_
  repeat walk_at "s"
  refine ⟨_, .drop (.refl _), ?_⟩
  have e3 : strVs ws ++ [V.str (mkS (wz (p.fdiv r) ((apL (p.fdiv r).natAbs).toArray.toList.map UInt8.toNat)))] = strVs (ws ++ [zw (p.fdiv r)]) := by rw [strVs, strVs, List.map_append]; rfl
  rw [e3]
  exact hq1
end
end
noncomputable section
structure Mc (σ : Type) where
  p : Int
  q : Int
  r : Int
  s : Int
  t : Nat
  f : Bool
  ws : List Int
  ak : List Nat
  hd : List Int
  z : σ
noncomputable abbrev zws (l : List Int) : List (List Nat) := l.map zw
noncomputable abbrev pbA (l : List Int) : AO := .list (strVs (zws l))
noncomputable abbrev akA (l : List Nat) : AO := .list (natVs l)
noncomputable def owW : Option Int → List Nat
  | none => []
  | some i => zw i
theorem zw_lt {z : Int} {c : Nat} (h : c ∈ zw z) : c < 0x110000 := by
  rw [zw, wz] at h
  rcases List.mem_cons.mp h with rfl | h
  · split <;> decide
  · exact Nat.lt_trans (wordL_lt h) (by decide)
theorem zws_lt {l : List Int} : ∀ w ∈ zws l, ∀ c ∈ w, c < 0x110000 := fun w hw c hc => by
  obtain ⟨z, _, rfl⟩ := List.mem_map.mp hw
  exact zw_lt hc
structure Lx where
  (x dx pb fp fd rd cl ll bx ak hd : Addr)
noncomputable def MK {σ : Type} (K : AO → AO → AO → AO → σ → AH) (m : Mc σ) : AH := K (boxA m.p m.q m.r m.s m.t m.f) (pbA m.ws) (akA m.ak) (pbA m.hd) m.z
structure MH {σ : Type} (a : Ad) (g : Lx) (K : AO → AO → AO → AO → σ → AH) : Prop where
  h2 : ∀ u v x y z, Hole2 g.bx u g.pb v (K u v x y z) (fun u v => K u v x y z)
  hA : ∀ u v x x' y z, Upd g.ak x x' (K u v x y z) (K u v x' y z)
  hH : ∀ u v x y y' z, Upd g.hd y y' (K u v x y z) (K u v x y' z)
  rd : ∀ u v x y z, Rd a g.x g.dx g.fp g.fd g.rd g.cl g.ll g.pb (K u v x y z)
  dx : ∀ u v x y z, (g.dx, AO.attrs (netA 1 (.ref g.fp) g.pb)) ∈ K u v x y z
  ll : ∀ u v x y z, (g.ll, AO.list []) ∈ K u v x y z
  T : ∀ u v x y z, Tabs a (K u v x y z)
  ne : g.pb ≠ g.ll
theorem Hole2.pre {a b : Addr} {x y : AO} {H : AH} {K : AO → AO → AH} (h : Hole2 a x b y H K) : ∀ pre : AH, Hole2 a x b y (pre ++ H) (fun u v => pre ++ K u v)
  | [] => h
  | _ :: pre => .tail (Hole2.pre h pre)
theorem Upd.pre {a : Addr} {x y : AO} {H H' : AH} (h : Upd a x y H H') : ∀ pre : AH, Upd a x y (pre ++ H) (pre ++ H')
  | [] => h
  | _ :: pre => .tail (Upd.pre h pre)
theorem MH.pre {σ : Type} {a : Ad} {g : Lx} {K : AO → AO → AO → AO → σ → AH} (M : MH a g K) (pre : AH) : MH a g (fun u v x y z => pre ++ K u v x y z) where
  h2 := fun u v x y z => (M.h2 u v x y z).pre pre
  hA := fun u v x x' y z => (M.hA u v x x' y z).pre pre
  hH := fun u v x y y' z => (M.hH u v x y y' z).pre pre
  rd := fun u v x y z => let R := M.rd u v x y z; ⟨List.mem_append_right _ R.x, List.mem_append_right _ R.fp, List.mem_append_right _ R.fd, List.mem_append_right _ R.rd, List.mem_append_right _ R.cl⟩
  dx := fun u v x y z => List.mem_append_right _ (M.dx u v x y z)
  ll := fun u v x y z => List.mem_append_right _ (M.ll u v x y z)
  T := fun u v x y z => (M.T u v x y z).to fun p h => List.mem_append_right _ h
  ne := M.ne
noncomputable def Asks {σ : Type} (C : Cfg) (K : AO → AO → AO → AO → σ → AH) (ask : Addr) (St : σ → Option Int → σ → Prop) (n : Nat) : Prop :=
  ∀ {A : Around} {l : List Env} {Q : V → AH → Prop} (pre : AH) (m : Mc σ) (w : Option Int) (z' : σ), Room A n → A.frames = some l → (∀ m : Mc σ, Stk l (pre ++ MK K m)) → St m.z w z' → Q (.str (mkS (owW w))) (pre ++ MK K { m with z := z' }) → WPC C A (.ref ask) [] Q (pre ++ MK K m)
noncomputable def Asks0 {σ : Type} (C : Cfg) (B : σ → AH) (ask : Addr) (St : σ → Option Int → σ → Prop) (n : Nat) : Prop :=
  ∀ {A : Around} {l : List Env} {Q : V → AH → Prop} (pre : AH) (z : σ) (w : Option Int) (z' : σ), Room A n → A.frames = some l → (∀ z, Stk l (pre ++ B z)) → St z w z' → Q (.str (mkS (owW w))) (pre ++ B z') → WPC C A (.ref ask) [] Q (pre ++ B z)
theorem Asks0.on {σ : Type} {C : Cfg} {B : σ → AH} {ask : Addr} {St : σ → Option Int → σ → Prop} {n : Nat} (h : Asks0 C B ask St n) (D : AO → AO → AO → AO → AH) : Asks C (fun u v x y z => D u v x y ++ B z) ask St n := fun pre m w z' hr hfr hS ho q => by
  have e : ∀ z, pre ++ MK (fun u v x y z => D u v x y ++ B z) { m with z := z } = (pre ++ D (boxA m.p m.q m.r m.s m.t m.f) (pbA m.ws) (akA m.ak) (pbA m.hd)) ++ B z := fun z => (List.append_assoc ..).symm
  have e1 := e m.z
  rw [e] at q
  show WPC C _ _ _ _ (pre ++ MK _ { m with z := m.z })
  rw [e]
  exact h _ m.z w z' hr hfr (fun z => e z ▸ hS { m with z := z }) ho q
theorem Asks.pre {σ : Type} {C : Cfg} {K : AO → AO → AO → AO → σ → AH} {ask : Addr} {St : σ → Option Int → σ → Prop} {n : Nat} (h : Asks C K ask St n) (pre : AH) : Asks C (fun u v x y z => pre ++ K u v x y z) ask St n := fun pre' m w z' hr hfr hS ho q => by
  have e : ∀ m : Mc σ, pre' ++ MK (fun u v x y z => pre ++ K u v x y z) m = (pre' ++ pre) ++ MK K m := fun m => (List.append_assoc ..).symm
  rw [e] at q ⊢
  exact h _ m w z' hr hfr (fun m => e m ▸ hS m) ho q
structure Bd {σ : Type} (m : Mc σ) : Prop where
  p : m.p.natAbs < 2 ^ 200
  q : m.q.natAbs < 2 ^ 200
  r : m.r.natAbs < 2 ^ 200
  s : m.s.natAbs < 2 ^ 200
  ws : m.ws.length ≤ 10000
  ak : m.ak.length ≤ 10000
  hd : m.hd.length ≤ 10000
noncomputable abbrev Mc.step {σ : Type} (m : Mc σ) (u v w : Int) : Mc σ := { m with p := m.r, q := m.s, r := v, s := w, t := m.t + 1, ws := m.ws ++ [u] }
inductive SetN {σ : Type} : Nat → Mc σ → Mc σ → Prop
  | stop {m : Mc σ} (b : Bd m) (h : settleF m.p m.q m.r m.s = none) : SetN 0 m m
  | step {k : Nat} {m m' : Mc σ} {u v w : Int} (b : Bd m) (h : settleF m.p m.q m.r m.s = some (u, v, w)) (g : SetN k (m.step u v w) m') : SetN (k + 1) m m'
noncomputable def hearF {σ : Type} (m : Mc σ) (w : Option Int) (z : σ) : Mc σ := match w with
  | none => { m with q := 0, s := 0, f := true, ak := m.ak ++ [m.t], z := z }
  | some i => { m with p := m.p * i + m.q, q := m.p, r := m.r * i + m.s, s := m.r, ak := m.ak ++ [m.t], hd := m.hd ++ [i], z := z }
inductive GiveN {σ : Type} (St : σ → Option Int → σ → Prop) : Nat → Mc σ → Mc σ → Option Int → Prop
  | out {m : Mc σ} (h : m.ws ≠ [] ∨ m.f = true) (b : Bd m) : GiveN St 0 m { m with ws := m.ws.tail } m.ws.head?
  | turn {j k : Nat} {m m₁ m' : Mc σ} {w wz : Option Int} {z' : σ} (h1 : m.ws = []) (h2 : m.f = false) (b : Bd m) (o : St m.z wz z') (hi : ∀ i, wz = some i → i.natAbs < 2 ^ 200) (s : SetN j (hearF m wz z') m₁) (g : GiveN St k m₁ m' w) : GiveN St (k + 1) m m' w
noncomputable def LGive : List Stmt := match F_give.body with | .stmts b => b | _ => []
noncomputable abbrev giveL : List Str := ["line", "box", "ask", "asked", "heard", "word", "p", "q", "r", "s", "size", "term"]
inductive GvI {σ : Type} (St : σ → Option Int → σ → Prop) (N : Nat) (m' : Mc σ) (w : Option Int) (K : AO → AO → AO → AO → σ → AH) (L : Addr) (vs : List (Option V)) (i : Nat) (H₁ : AH) : Prop
  | mk (m : Mc σ) (v5 v6 v7 v8 v9 v10 v11 : Option V) (j : Nat) (hj : N = i + j) (h : GiveN St j m m' w) (e : H₁ = (L, .ns giveL (vs ++ [v5, v6, v7, v8, v9, v10, v11])) :: MK K m) : GvI St N m' w K L vs i H₁
inductive SvI {σ : Type} (N : Nat) (m' : Mc σ) (K : AO → AO → AO → AO → σ → AH) (L : Addr) (vs : List (Option V)) (i : Nat) (H₁ : AH) : Prop
  | mk (m : Mc σ) (j : Nat) (hj : N = i + j) (h : SetN j m m') (e : H₁ = (L, .ns giveL vs) :: MK K m) : SvI N m' K L vs i H₁
section
variable {C : Cfg} {a : Ad} {A : Around} {H H' : AH} {Q : V → AH → Prop} {l : List Env}
theorem GiveN.out_inv {σ : Type} {St : σ → Option Int → σ → Prop} {j : Nat} {m m' : Mc σ} {w : Option Int} (h : GiveN St j m m' w) (hm : m.ws ≠ [] ∨ m.f = true) : m' = { m with ws := m.ws.tail } ∧ w = m.ws.head? ∧ Bd m := by
  cases h with
  | out h b => exact ⟨rfl, rfl, b⟩
  | turn h1 h2 _ _ _ _ _ => exact hm.elim (fun h => absurd h1 h) (fun h => by rw [h2] at h; cases h)
theorem give_out {σ : Type} {g : Lx} {K : AO → AO → AO → AO → σ → AH} {env : Env} {L : Addr} {m : Mc σ} {vs : List (Option V)} {QF : Fl → AH → Prop} (W : W3 C a) (hr : Room A 10) (M : MH a g K) (FE : FEnv env L giveL [] ["_digits2int", "_law_settle"])
    (hm : m.ws.length ≤ 10000) (q : ∀ vs, QF (.ret (.str (mkS (owW m.ws.head?)))) ((L, .ns giveL (some (.ref g.x) :: vs)) :: MK K { m with ws := m.ws.tail })) :
    WPS C A env (LGive.drop 1) QF ((L, .ns giveL (some (.ref g.x) :: vs)) :: MK K m) := by
  have G := W.G
  have hx := (M.rd (boxA m.p m.q m.r m.s m.t m.f) (pbA m.ws) (akA m.ak) (pbA m.hd) m.z).x
  have hd := M.dx (boxA m.p m.q m.r m.s m.t m.f) (pbA m.ws) (akA m.ak) (pbA m.hd) m.z
  have h2 := M.h2 (boxA m.p m.q m.r m.s m.t m.f) (pbA m.ws) (akA m.ak) (pbA m.hd) m.z
  refine wps_cons ?_
  repeat walk_at "s"
  refine gm_get W (.tail _ hx) (.tail _ hd) ?_
  repeat walk_at "s"
  obtain ⟨mp, mq, mr, ms, t, f, ws, ak, hdd, z⟩ := m
  cases ws with
  | cons i r' =>
    refine sp_get_pb (t := .str (mkS (zw i))) (ts := strVs (zws r')) W (hr.mono (by decide)) (.tail _ hx) (.tail _ hd) (.tail (h2.upd2 _ (pbA (i :: r')) (pbA r'))) (by rw [List.length_map, List.length_map]; exact Nat.le_trans (Nat.le_of_succ_le hm) (by decide)) ?_
    repeat walk_at "s"
    exact q _
  | nil =>
    have R := M.rd (boxA mp mq mr ms t f) (pbA []) (akA ak) (pbA hdd) z
    have hll := M.ll (boxA mp mq mr ms t f) (pbA []) (akA ak) (pbA hdd) z
    have hpb := h2.mem2 (boxA mp mq mr ms t f) (pbA [])
    have hH : MK K (⟨mp, mq, mr, ms, t, f, [], ak, hdd, z⟩ : Mc σ) = K (boxA mp mq mr ms t f) (pbA []) (akA ak) (pbA hdd) z := rfl
    dsimp only at hx hd h2
    replace q : ∀ vs, QF (.ret (.str (mkS []))) ((L, .ns giveL (some (.ref g.x) :: vs)) :: K (boxA mp mq mr ms t f) (pbA []) (akA ak) (pbA hdd) z) := q
    rw [hH]
    clear hH
    generalize K (boxA mp mq mr ms t f) (pbA []) (akA ak) (pbA hdd) z = H₀ at *
    obtain ⟨K2, hK2⟩ := hole2_of_mem (by intro e; exact nomatch (Prod.mk.inj e).2) hll hd
    have st : ∀ {p}, p ∈ H₀ → p ≠ (g.ll, .list []) → p ≠ (g.dx, .attrs (netA 1 (.ref g.fp) g.pb)) → ∀ u v, p ∈ K2 u v := fun hp h1 h2 u v => hK2.stay u v hp h1 h2
    have n1 : ∀ {e : AO}, (∀ v, e ≠ .list v) → ∀ {x : Addr}, (x, e) ≠ (g.ll, .list []) := fun h zz e => h _ (Prod.mk.inj e).2
    refine sp_get_rd (K := fun u v => (L, .ns giveL (some (.ref g.x) :: vs)) :: K2 u v) (cs := []) (tok := []) (cs' := []) (n := 1) (n' := 1) W (hr.mono (by decide)) (.tail hK2) (by decide)
      (fun u v => ⟨.tail _ (st R.x (n1 (by intro v h; cases h)) (by intro e; have := (Prod.mk.inj e).2; cases this) u v), .tail _ (st R.fp (n1 (by intro v h; cases h)) (by intro e; have := (Prod.mk.inj e).2; cases this) u v), .tail _ (st R.fd (n1 (by intro v h; cases h)) (by intro e; simp [netA] at e) u v),
        .tail _ (st R.rd (n1 (by intro v h; cases h)) (by intro e; have := (Prod.mk.inj e).2; cases this) u v), .tail _ (st R.cl (n1 (by intro v h; cases h)) (by intro e; have := (Prod.mk.inj e).2; cases this) u v)⟩)
      (fun u v => .tail _ (st hpb (fun e => M.ne (Prod.mk.inj e).1) (by intro e; have := (Prod.mk.inj e).2; cases this) u v)) rfl ?_
    have e := hK2.eq
    repeat walk_at "s"
    show QF _ ((L, _) :: K2 (.list []) (.attrs (netA 1 (.ref g.fp) g.pb)))
    rw [← e]
    exact q _
noncomputable def LGiveB : List Stmt := match LGive with | .While _ b _ _ :: _ => b | _ => []
noncomputable def LElse : List Stmt := match nth LGiveB 2 with | .If _ _ b _ => b | _ => []
theorem give_set {σ : Type} {g : Lx} {K : AO → AO → AO → AO → σ → AH} {env : Env} {L : Addr} {j : Nat} {m m₁ : Mc σ} {us : List (Option V)} {QF : Fl → AH → Prop} (W : W3 C a) (hr : Room A 39) (hfr : A.frames = some (env :: l))
    (FE : FEnv env L giveL [] ["_digits2int", "_law_settle"]) (hkd : env.scope.kind ≠ .module) (hfL : env.frame = some L) (M : MH a g K) (hSt : ∀ m : Mc σ, Stk l (MK K m)) (sN : SetN j m m₁) (q : QF .next ((L, .ns giveL (some (.ref g.x) :: some (.ref g.bx) :: us)) :: MK K m₁)) :
    WP1 C A env (nth LGiveB 3) (Behind C A env [] QF) ((L, .ns giveL (some (.ref g.x) :: some (.ref g.bx) :: us)) :: MK K m) := by
  have G := W.G
  refine (wp1_While (SvI j m₁ K L (some (.ref g.x) :: some (.ref g.bx) :: us)) j ⟨m, j, (Nat.zero_add j).symm, sN, rfl⟩ ?_)
  rintro i H₁ hi ⟨m, k, hj, sN, rfl⟩
  have hS' : Stk (env :: l) ((L, .ns giveL (some (.ref g.x) :: some (.ref g.bx) :: us)) :: MK K m) := (hSt m).cons hkd hfL
  have h2 := M.h2 (boxA m.p m.q m.r m.s m.t m.f) (pbA m.ws) (akA m.ak) (pbA m.hd) m.z
  have hd := M.dx
  have hx := fun u v x y z => (M.rd u v x y z).x
  have hT := M.T (boxA m.p m.q m.r m.s m.t m.f) (pbA m.ws) (akA m.ak) (pbA m.hd) m.z
  have b : Bd m := by cases sN <;> assumption
  repeat walk_at "s"
  refine sp_settle (K := fun u v => (L, .ns giveL (some (.ref g.x) :: some (.ref g.bx) :: us)) :: K u v (akA m.ak) (pbA m.hd) m.z) (ws := zws m.ws) W (hr.mono (by decide)) hfr hS' (.tail h2) (fun u v => .tail _ (hx _ _ _ _ _)) (fun u v => .tail _ (hd _ _ _ _ _)) (hT.to fun p h => .tail _ h) b.p b.q b.r b.s (by rw [List.length_map]; exact b.ws) (fun h0 => ?_) (fun u v w h1 => ?_)
  · repeat walk_at "s"
    refine ⟨fun h => (nomatch h), fun zz => ?_⟩
    refine wps_nil ?_
    cases sN with
    | stop b h =>
      repeat walk_at "s"
      exact q
    | step b h gN => rw [h0] at h; cases h
  · repeat walk_at "s"
    refine ⟨fun zz => ?_, fun h => (nomatch h)⟩
    cases sN with
    | stop b h => rw [h1] at h; cases h
    | @step k' _ _ u' v' w' b h gN =>
    rw [h1] at h; cases h
    refine ⟨by lia, ?_⟩
    have h2' := M.h2 (boxA m.r m.s v w m.t m.f) (.list (strVs (zws m.ws ++ [zw u]))) (akA m.ak) (pbA m.hd) m.z
    have hbx := h2'.mem1 (boxA m.r m.s v w m.t m.f) (.list (strVs (zws m.ws ++ [zw u])))
    repeat walk_at "s"
    refine wp1_Assign ?_
    repeat walk_at "s"
    refine gi_list (.tail _ hbx) (by decide) (by rfl) (Nat.le_of_ble_eq_true rfl) ?_
    repeat walk_at "s"
    refine asg_Subscript ?_
    repeat walk_at "s"
    refine set_list (vs := [.tup [.int m.r, .int m.s, .int v, .int w], .int m.t, .bool m.f]) (.tail (h2'.upd1 _ (boxA m.r m.s v w ((m.t : Int) + 1) m.f) _)) (by decide) (by decide : (1 : Int) < 3) (Nat.le_of_ble_eq_true rfl) ?_
    repeat walk_at "s"
    have e1 : boxA m.r m.s v w ((m.t : Int) + 1) m.f = boxA m.r m.s v w ((m.t + 1 : Nat) : Int) m.f := by push_cast; rfl
    have e2 : AO.list (strVs (zws m.ws ++ [zw u])) = pbA (m.ws ++ [u]) := by rw [pbA, zws, zws, List.map_append]; rfl
    rw [e1, e2]
    exact ⟨m.step u v w, k', by lia, gN, rfl⟩
theorem give_turn {σ : Type} {g : Lx} {K : AO → AO → AO → AO → σ → AH} {env : Env} {L ask : Addr} {St : σ → Option Int → σ → Prop} {n j : Nat} {m m₁ : Mc σ} {v5 v6 v7 v8 v9 v10 v11 : Option V} {QF : Fl → AH → Prop} (W : W3 C a) (hr : Room A (n + 39)) (hfr : A.frames = some (env :: l))
    (FE : FEnv env L giveL [] ["_digits2int", "_law_settle"]) (hkd : env.scope.kind ≠ .module) (hfL : env.frame = some L) (M : MH a g K) (hA : Asks C K ask St n) (hSt : ∀ m : Mc σ, Stk l (MK K m)) (hw : m.ws = []) (hf : m.f = false) (b : Bd m) {wz : Option Int} {z' : σ} (o : St m.z wz z')
    (hi : ∀ i, wz = some i → i.natAbs < 2 ^ 200) (sN : SetN j (hearF m wz z') m₁)
    (q : ∀ v5 v6 v7 v8 v9 v10 v11, QF .next ((L, .ns giveL [some (.ref g.x), some (.ref g.bx), some (.ref ask), some (.ref g.ak), some (.ref g.hd), v5, v6, v7, v8, v9, v10, v11]) :: MK K m₁)) :
    WPS C A env LGiveB QF ((L, .ns giveL [some (.ref g.x), some (.ref g.bx), some (.ref ask), some (.ref g.ak), some (.ref g.hd), v5, v6, v7, v8, v9, v10, v11]) :: MK K m) := by
  have G := W.G
  have hA' := hr.hd
  obtain ⟨mp, mq, mr, ms, t, f, ws, ak, hdd, z⟩ := m
  dsimp only at hw hf
  subst hw hf
  have hd := M.dx
  have hx := fun u v x y z => (M.rd u v x y z).x
  have hup := M.hA (boxA mp mq mr ms t false) (pbA []) (akA ak) (.list (natVs ak ++ [.int t])) (pbA hdd) z
  have hbx := (M.h2 (boxA mp mq mr ms t false) (pbA []) (akA ak) (pbA hdd) z).mem1 (boxA mp mq mr ms t false) (pbA [])
  have hbx2 := (M.h2 (boxA mp mq mr ms t false) (pbA []) (akA (ak ++ [t])) (pbA hdd) z').mem1 (boxA mp mq mr ms t false) (pbA [])
  have ea : AO.list (natVs ak ++ [V.int t]) = akA (ak ++ [t]) := by rw [akA, natVs, natVs, List.map_append]; rfl
  have hS2 := hSt ⟨mp, mq, mr, ms, t, false, [], ak ++ [t], hdd, z⟩
  refine wps_cons ?_
  repeat walk_at "s"
  refine wpm_append (.tail _ hup.mem) ?_
  repeat walk_at "s"
  refine gi_list (.tail _ hbx) (by decide) (by rfl) (Nat.le_of_ble_eq_true rfl) ?_
  repeat walk_at "s"
  refine c_append (.tail hup) (by rw [List.length_map]; exact Nat.le_trans b.ak (by decide)) ?_
  rw [ea]
  repeat walk_at "s"
  refine wp1_Assign (hw := noswapN) ?_
  repeat walk_at "s"
  refine hA [(L, _)] ⟨mp, mq, mr, ms, t, false, [], ak ++ [t], hdd, z⟩ wz z' (hr.mono (Nat.le_add_right _ _)) hfr (fun m => (hSt m).cons hkd hfL) o ?_
  simp only [List.cons_append, List.nil_append]
  repeat walk_at "s"
  refine gi_list (.tail _ hbx2) (by decide) (by rfl) (Nat.le_of_ble_eq_true rfl) ?_
  repeat walk_at "s"
  refine asg_Tuple hA' (wpas_cons ?_)
  repeat walk_at "s"
  refine wpas_cons ?_
  dsimp only
  refine asg_Tuple hA' (wpas_cons ?_)
  repeat walk_at "s"
  refine wpas_cons ?_
  repeat walk_at "s"
  refine wpas_cons ?_
  repeat walk_at "s"
  refine wpas_cons ?_
  repeat walk_at "s"
  refine wpas_nil ?_
  refine wpas_nil ?_
  repeat walk_at "s"
  cases wz with
  | none =>
    refine ⟨fun zz => ?_, fun h => by simp [owW, mkS_nil] at h⟩
    have h2' := M.h2 (boxA mp mq mr ms t false) (pbA []) (akA (ak ++ [t])) (pbA hdd) z'
    repeat walk_at "s"
    refine wp1_Assign (hw := noswapS) ?_
    repeat walk_at "s"
    refine asg_Tuple hA' (wpas_cons ?_)
    dsimp only
    refine asg_Subscript ?_
    repeat walk_at "s"
    refine set_list (vs := [.tup [.int mp, .int mq, .int mr, .int ms], .int t, .bool false]) (.tail (h2'.upd1 _ (boxA mp 0 mr 0 t false) _)) (by decide) (by decide : (0 : Int) < 3) (Nat.le_of_ble_eq_true rfl) ?_
    refine wpas_cons ?_
    dsimp only
    refine asg_Subscript ?_
    repeat walk_at "s"
    refine set_list (vs := [.tup [.int mp, .int 0, .int mr, .int 0], .int t, .bool false]) (.tail (h2'.upd1 _ (boxA mp 0 mr 0 t true) _)) (by decide) (by decide : (2 : Int) < 3) (Nat.le_of_ble_eq_true rfl) ?_
    refine wpas_nil ?_
    repeat walk_at "s"
    exact give_set W (hr.mono (Nat.le_add_left _ _)) hfr FE hkd hfL M hSt sN (q _ _ _ _ _ _ _)
  | some i =>
    have hi2 : i.natAbs < 16 ^ 100 := Nat.lt_of_lt_of_le (hi i rfl) (by decide)
    have hne : (mkS (owW (some i)) == "") = false := by
      rw [mkS_nil, mkS_eq]; exact decide_eq_false (by simp [owW, zw, wz])
    refine ⟨fun h => (by rw [hne] at h; cases h), fun zz => ?_⟩
    have hup3 := M.hH (boxA mp mq mr ms t false) (pbA []) (akA (ak ++ [t])) (pbA hdd) (.list (strVs (zws hdd) ++ [.str (mkS (zw i))])) z'
    have eh : AO.list (strVs (zws hdd) ++ [V.str (mkS (zw i))]) = pbA (hdd ++ [i]) := by rw [pbA, zws, zws, List.map_append, strVs, strVs, List.map_append]; rfl
    have h2' := M.h2 (boxA mp mq mr ms t false) (pbA []) (akA (ak ++ [t])) (pbA (hdd ++ [i])) z'
    have hT' := M.T (boxA mp mq mr ms t false) (pbA []) (akA (ak ++ [t])) (pbA (hdd ++ [i])) z'
    repeat walk_at "s"
    refine wpm_append (.tail _ hup3.mem) ?_
    repeat walk_at "s"
    refine c_append (.tail hup3) (by rw [List.length_map, List.length_map]; exact Nat.le_trans b.hd (by decide)) ?_
    rw [eh]
    repeat walk_at "s"
    have hlen : (wordL i.natAbs).length ≤ 100 := by have := apL_len 100 i.natAbs hi2; simpa using this
    have hd2 := d2i_word i.natAbs
    have hlt : ∀ c ∈ wordL i.natAbs, c < 256 := fun c h => wordL_lt h
    have ed : (zw i).drop 1 = wordL i.natAbs := rfl
    have hwl : (zw i).length ≤ 101 := zw_len hi2
    have hwn : (zw i)[0]? = some (if i < 0 then 34 else 10) := rfl
    have hd2i := hT'.d2i
    rw [show owW (some i) = zw i from rfl]
    generalize zw i = w at ed hwl hwn ⊢
    generalize wordL i.natAbs = ls at hlen hd2 hlt ed
    refine wp_LC (ln' := ["letter"]) (gn' := ["ord"]) (fs := []) (cs := []) FE (by kernel_rfl) (List.forall_mem_nil _) ?_
    refine wpi_value ?_
    repeat walk_at "s"
    have hw1 : 1 ≤ w.length := by
      cases w with
      | nil => cases hwn
      | cons _ _ => exact Nat.succ_le_succ (Nat.zero_le _)
    refine gs_str_drop (p := 1) hw1 (Nat.le_trans hwl (by decide)) ?_
    rw [ed]
    refine pi_str hA' ?_
    have FE0 := FE
    intro bb c cenv FE
    replace FE : FEnv cenv c ["letter"] [] ["ord"] := FE
    refine turns_map (xs := signVs ls) (ys := ls.map fun (c : Nat) => V.int ((c : Int) - 65)) FE (by simp) (by rw [List.length_map]; exact Nat.le_trans hlen (by decide)) (fun i x o acc h => ?_) (fun o acc => ?_) (fun i x v acc hx hv => ?_) fun o => ?_
    · simp only [List.getElem?_map, Option.map_eq_some_iff] at h
      obtain ⟨k, hk, rfl⟩ := h
      exact sign_some hk
    · simpa using sign_none (l := ls)
    · simp only [List.getElem?_map, Option.map_eq_some_iff] at hx hv
      obtain ⟨k, hk, rfl⟩ := hx
      obtain ⟨_, hk', rfl⟩ := hv
      rw [hk] at hk'; cases hk'
      repeat walk_at "s"
      refine c_ord ?_
      repeat walk_at "s"
      exact ⟨rfl, .refl _⟩
    · refine ⟨_, _, .head, ?_⟩
      have FE := FE0
      repeat walk_at "s"
      refine gs_list (by walk_at "mem") (by decide) (by rw [List.length_map]; exact Nat.le_trans hlen (by decide)) ?_
      intro b2
      have el : (ls.map fun (c : Nat) => V.int ((c : Int) - 65)).reverse = ((ls.map fun (c : Nat) => (c : Int) - 65).reverse).map V.int := by simp
      rw [pySlice_rev, el]
      repeat walk_at "s"
      refine sp_digits2int (B := 10) (ds := (ls.map fun (c : Nat) => (c : Int) - 65).reverse) W (hr.mono (Nat.le_trans (by decide : 20 ≤ 39) (Nat.le_add_left _ _))) (by decide) (fun d hd => ?_) (by simp; lia) (by simp; lia) (by walk_at "mem") (by walk_at "mem") ?_
      · obtain ⟨c, hc, rfl⟩ := List.mem_map.mp (List.mem_reverse.mp hd)
        have := hlt c hc
        omega
      rw [hd2]
      refine Op1.sub (H' := (L, _) :: K _ _ _ _ _) (.drop (.drop (.refl _))) ?_
      repeat walk_at "s"
      refine gi_str (c := if i < 0 then 34 else 10) (by decide) (by rw [mkS_len]; exact Nat.le_trans hwl (by decide)) hwn ?_
      repeat walk_at "s"
      rw [sg_is _ 34 q_sign]
      have tail : ∀ sz : Int, WP1 C A env (nth LElse 3) (Behind C A env [] (Behind C A env [nth LGiveB 3] QF)) ((L, .ns giveL [some (.ref g.x), some (.ref g.bx), some (.ref ask), some (.ref g.ak), some (.ref g.hd), some (.str (mkS w)), some (.int mp), some (.int mq), some (.int mr), some (.int ms), some (.int sz), some (.int i)]) ::
          K (boxA mp mq mr ms t false) (pbA []) (akA (ak ++ [t])) (pbA (hdd ++ [i])) z') := fun sz => by
        refine wp1_Assign ?_
        repeat walk_at "s"
        refine op_mul_int (mulOk (k := 200) (l := 200) b.p (hi i rfl) (by decide)) ?_
        repeat walk_at "s"
        refine op_mul_int (mulOk (k := 200) (l := 200) b.r (hi i rfl) (by decide)) ?_
        repeat walk_at "s"
        refine asg_Subscript ?_
        repeat walk_at "s"
        refine set_list (vs := [.tup [.int mp, .int mq, .int mr, .int ms], .int t, .bool false]) (.tail (h2'.upd1 _ (boxA (mp * i + mq) mp (mr * i + ms) mr t false) _)) (by decide) (by decide : (0 : Int) < 3) (Nat.le_of_ble_eq_true rfl) ?_
        repeat walk_at "s"
        exact give_set W (hr.mono (Nat.le_add_left _ _)) hfr FE hkd hfL M hSt sN (q _ _ _ _ _ _ _)
      refine ⟨fun h => ?_, fun h => ?_⟩
      · have h' : -(i.natAbs : Int) = i := by
          by_cases hn0 : i < 0
          · lia
          · rw [if_neg hn0] at h; simp at h
        walk_at "s"
        walk_at "s"
        walk_at "s"
        rw [h']
        repeat walk_at "s"
        exact tail _
      · have h' : (i.natAbs : Int) = i := by
          by_cases hn0 : i < 0
          · rw [if_pos hn0] at h; simp at h
          · lia
        walk_at "s"
        rw [h']
        repeat walk_at "s"
        exact tail _
theorem sp_give {σ : Type} {g : Lx} {K : AO → AO → AO → AO → σ → AH} {ask : Addr} {St : σ → Option Int → σ → Prop} {n N : Nat} {m m' : Mc σ} {w : Option Int} (W : W3 C a) (hr : Room A (n + 40)) (hfr : A.frames = some l) (hS : Stk l (MK K m)) (M : MH a g K) (hA : Asks C K ask St n)
    (hg : GiveN St N m m' w) (hN : N ≤ 1000) (hSt : ∀ m : Mc σ, Stk l (MK K m)) (q : Q (.str (mkS (owW w))) (MK K m')) : WPC C A (.ref a.give) [.ref g.x, .ref g.bx, .ref ask, .ref g.ak, .ref g.hd] Q (MK K m) := by
  have G := W.G
  obtain ⟨cd, hF⟩ := W.give
  refine call_okF ok_give G (fnAt_of_base hF) hr hfr rfl rfl (by walk_at "init") rfl rfl fun L cd A' env hr' hfr' hfL hkd hD FE he => ?_
  have hA' := hr'.hd
  refine wps_cons (wp1_While (GvI St N m' w K L [some (.ref g.x), some (.ref g.bx), some (.ref ask), some (.ref g.ak), some (.ref g.hd)]) N ⟨m, none, none, none, none, none, none, none, N, (Nat.zero_add N).symm, hg, rfl⟩ ?_)
  rintro i H₁ hi ⟨m, v5, v6, v7, v8, v9, v10, v11, j, hj, hg, rfl⟩
  have hx := (M.rd (boxA m.p m.q m.r m.s m.t m.f) (pbA m.ws) (akA m.ak) (pbA m.hd) m.z).x
  have hd := M.dx (boxA m.p m.q m.r m.s m.t m.f) (pbA m.ws) (akA m.ak) (pbA m.hd) m.z
  have h2 := M.h2 (boxA m.p m.q m.r m.s m.t m.f) (pbA m.ws) (akA m.ak) (pbA m.hd) m.z
  have hbx := h2.mem1 (boxA m.p m.q m.r m.s m.t m.f) (pbA m.ws)
  have hpb := h2.mem2 (boxA m.p m.q m.r m.s m.t m.f) (pbA m.ws)
  simp only [List.cons_append, List.nil_append]
  refine wpb_BoolOp (wp_allAnd_cons ?_)
  repeat walk_at "s"
  refine ga_pb W (.tail _ hx) (.tail _ hd) ?_
  repeat walk_at "s"
  intro n1
  refine op_eq_data (d := dSs (zws m.ws)) (e := dSs []) (dr_strs (.tail _ (.tail _ hpb))) (dr_strs (.head _)) ?_ ?_ hr'.line ?_
  · exact (dok_strs (n := 0) zws_lt).shaped (by decide)
  · exact (dok_strs (n := 0) (List.forall_mem_nil _)).shaped (by decide)
  rw [eqv_strs]
  refine Op1.sub (.drop (.refl _)) ?_
  have fin : (m.ws ≠ [] ∨ m.f = true) → WPS C A' env (LGive.drop 1) (fun fl H₁ => ∃ H₂, Sub H₂ H₁ ∧ Q fl.val H₂) ((L, .ns giveL (some (.ref g.x) :: [some (.ref g.bx), some (.ref ask), some (.ref g.ak), some (.ref g.hd), v5, v6, v7, v8, v9, v10, v11])) :: MK K m) := fun hm => by
    obtain ⟨rfl, rfl, b⟩ := hg.out_inv hm
    exact give_out W (hr'.mono (Nat.le_trans (by decide : 10 ≤ 39) (Nat.le_add_left _ _))) M FE b.ws fun vs => ⟨_, .drop (.refl _), q⟩
  repeat walk_at "s"
  refine ⟨fun hw => ?_, fun hw => ?_⟩
  · have hw0 : m.ws = [] := by
      have : zws m.ws = [] := of_decide_eq_true hw
      simpa using this
    repeat walk_at "s"
    refine gi_list (.tail _ hbx) (by decide) (by rfl) (Nat.le_of_ble_eq_true rfl) ?_
    repeat walk_at "s"
    refine ⟨fun hf => ?_, fun hf => ?_⟩
    · have hf0 : m.f = false := by simpa using hf
      repeat walk_at "s"
      refine ⟨fun zz => ?_, fun h => nomatch h⟩
      cases hg with
      | out h b => exact (h.elim (fun h => h hw0) (fun h => by rw [hf0] at h; cases h)).elim
      | @turn j' k _ m₁ _ _ wz z' _ _ b o hi2 sN gN =>
      refine ⟨by lia, ?_⟩
      refine give_turn W hr' hfr' FE hkd hfL M hA hSt hw0 hf0 b o hi2 sN fun v5 v6 v7 v8 v9 v10 v11 => ?_
      exact ⟨m₁, v5, v6, v7, v8, v9, v10, v11, k, by lia, gN, rfl⟩
    · refine ⟨fun h => (nomatch h), fun zz => ?_⟩
      refine wps_nil ?_
      exact fin (.inr (by simpa using hf))
  · have hw0 : m.ws ≠ [] := fun h => by
      have : ¬ (zws m.ws = []) := of_decide_eq_false hw
      exact this (by rw [h]; rfl)
    refine ⟨fun h => (nomatch h), fun zz => ?_⟩
    refine wps_nil ?_
    exact fin (.inl hw0)
end
end
noncomputable section
noncomputable abbrev mclos (c1 c2 c3 c4 c5 : Addr) : List (Str × Addr) := [("line", c1), ("heard", c2), ("box", c3), ("asked", c4), ("ask", c5)]
structure LamOk (g : Lx) (ask lm c1 c2 c3 c4 c5 : Addr) (H : AH) : Prop where
  lm : (lm, AO.fn (F_mlam (mclos c1 c2 c3 c4 c5))) ∈ H
  l1 : (c1, AO.cell (some (.ref g.x))) ∈ H
  l2 : (c2, AO.cell (some (.ref g.hd))) ∈ H
  l3 : (c3, AO.cell (some (.ref g.bx))) ∈ H
  l4 : (c4, AO.cell (some (.ref g.ak))) ∈ H
  l5 : (c5, AO.cell (some (.ref ask))) ∈ H
noncomputable def StM {σ : Type} (St : σ → Option Int → σ → Prop) (m : Mc σ) (w : Option Int) (m' : Mc σ) : Prop := ∃ N, N ≤ 1000 ∧ GiveN St N m m' w
theorem cells5 {cs : List (Str × Addr)} {x y z u v : Str} (h : cs.map (·.1) = [x, y, z, u, v]) : ∃ c d e f g, cs = [(x, c), (y, d), (z, e), (u, f), (v, g)] := by
  obtain ⟨c, cs1, rfl, h1⟩ := cells_cons h
  obtain ⟨d, cs2, rfl, h2⟩ := cells_cons h1
  obtain ⟨e, f, g, rfl⟩ := cells3 h2
  exact ⟨c, d, e, f, g, rfl⟩
theorem nd_ne {l : List Addr} (nd : l.Nodup) {i j : Nat} {a b : Addr} (hij : i < j) (hi : l[i]? = some a) (hj : l[j]? = some b) : a ≠ b := by
  obtain ⟨h1, rfl⟩ := List.getElem?_eq_some_iff.mp hi
  obtain ⟨h2, rfl⟩ := List.getElem?_eq_some_iff.mp hj
  exact List.pairwise_iff_getElem.mp nd i j h1 h2 hij
theorem mlamQual : F_machine.qual ++ ".<locals>." ++ "<lambda>" = ("_law_machine.<locals>.<lambda>" : Str) := by decide +kernel
section
variable {C : Cfg} {a : Ad} {A : Around} {H H' : AH} {Q : V → AH → Prop} {l : List Env}
theorem asks_lam {σ : Type} {g : Lx} {K : AO → AO → AO → AO → σ → AH} {ask lm c1 c2 c3 c4 c5 : Addr} {St : σ → Option Int → σ → Prop} {n : Nat} (W : W3 C a) (M : MH a g K) (hA : Asks C K ask St n) (hL : ∀ m : Mc σ, LamOk g ask lm c1 c2 c3 c4 c5 (MK K m)) :
    Asks0 C (MK K) lm (StM St) (n + 41) := fun {A l Q} pre m w m' hr hfr hS ⟨N, hN, hg⟩ q => by
  have G := W.G
  have hl := hL m
  refine call_okEF (cl := mclos c1 c2 c3 c4 c5) (ok_mlam _) G (fnAt_of_fn (List.mem_append_right _ hl.lm)) hr hfr rfl rfl (by walk_at "init") rfl rfl fun L cd A' env hr' hfr' hfL hkd hD FE he => ?_
  have m1 : (c1, AO.cell (some (.ref g.x))) ∈ pre ++ MK K m := List.mem_append_right _ hl.l1
  have m2 : (c2, AO.cell (some (.ref g.hd))) ∈ pre ++ MK K m := List.mem_append_right _ hl.l2
  have m3 : (c3, AO.cell (some (.ref g.bx))) ∈ pre ++ MK K m := List.mem_append_right _ hl.l3
  have m4 : (c4, AO.cell (some (.ref g.ak))) ∈ pre ++ MK K m := List.mem_append_right _ hl.l4
  have m5 : (c5, AO.cell (some (.ref ask))) ∈ pre ++ MK K m := List.mem_append_right _ hl.l5
  repeat walk_at "s"
  have hS' : ∀ m : Mc σ, Stk (env :: l) (MK (fun u v x y z => ((L, .ns [] []) :: pre) ++ K u v x y z) m) := fun m => (hS m).cons hkd hfL
  exact sp_give (K := fun u v x y z => ((L, .ns [] []) :: pre) ++ K u v x y z) (m := m) W hr' hfr' (hS' m) (M.pre _) (hA.pre _) hg hN hS' ⟨_, .drop (.refl _), q⟩
noncomputable abbrev mD (a : Ad) (g : Lx) (lm c1 c2 c3 c4 c5 ask : Addr) (u v x y : AO) : AH :=
  [(lm, .fn (F_mlam (mclos c1 c2 c3 c4 c5))), (g.hd, y), (g.ak, x), (g.bx, u), (g.x, .obj (instObj a.cls g.dx)), (g.dx, .attrs (netA 1 (.ref g.fp) g.pb)), (g.pb, v), (g.fd, .attrs [("read", .ref g.rd)]), (g.fp, .fobj g.fd), (g.rd, .fn (F_lam [("left", g.cl)])), (g.cl, .cell (some (.ref g.ll))),
    (g.ll, .list []), (c1, .cell (some (.ref g.x))), (c2, .cell (some (.ref g.hd))), (c3, .cell (some (.ref g.bx))), (c4, .cell (some (.ref g.ak))), (c5, .cell (some (.ref ask)))]
theorem mD_MH {σ : Type} {g : Lx} {lm c1 c2 c3 c4 c5 ask : Addr} {B : σ → AH} (hne : g.pb ≠ g.ll) (hT : ∀ z, Tabs a (B z)) : MH a g (fun u v x y z => mD a g lm c1 c2 c3 c4 c5 ask u v x y ++ B z) where
  h2 := fun u v x y z => .tail (.tail (.tail (.fst (.tail (.tail .head)))))
  hA := fun u v x x' y z => .tail (.tail .head)
  hH := fun u v x y y' z => .tail .head
  rd := fun u v x y z => ⟨.tail _ (.tail _ (.tail _ (.tail _ (.head _)))), .tail _ (.tail _ (.tail _ (.tail _ (.tail _ (.tail _ (.tail _ (.tail _ (.head _)))))))), .tail _ (.tail _ (.tail _ (.tail _ (.tail _ (.tail _ (.tail _ (.head _))))))),
    .tail _ (.tail _ (.tail _ (.tail _ (.tail _ (.tail _ (.tail _ (.tail _ (.tail _ (.head _))))))))), .tail _ (.tail _ (.tail _ (.tail _ (.tail _ (.tail _ (.tail _ (.tail _ (.tail _ (.tail _ (.head _))))))))))⟩
  dx := fun u v x y z => .tail _ (.tail _ (.tail _ (.tail _ (.tail _ (.head _)))))
  ll := fun u v x y z => List.mem_append_left _ (by walk_at "mem")
  T := fun u v x y z => (hT z).to fun p h => List.mem_append_right _ h
  ne := hne
theorem mD_lam {σ : Type} {g : Lx} {lm c1 c2 c3 c4 c5 ask : Addr} {B : σ → AH} (m : Mc σ) : LamOk g ask lm c1 c2 c3 c4 c5 (MK (fun u v x y z => mD a g lm c1 c2 c3 c4 c5 ask u v x y ++ B z) m) := by
  constructor <;> exact List.mem_append_left _ (by walk_at "mem")
theorem sp_machine {p q r s : Int} {ask : Addr} (W : W3 C a) (hr : Room A 5) (hT : (a.pStream, AO.tab "_law_stream.<locals>.<lambda>") ∈ H) (hT2 : (a.pMachine, AO.tab "_law_machine.<locals>.<lambda>") ∈ H)
    (k : ∀ g lm c1 c2 c3 c4 c5, g.pb ≠ g.ll → Q (.tup [.ref lm, .ref g.ak, .ref g.hd]) (mD a g lm c1 c2 c3 c4 c5 ask (boxA p q r s 0 false) (.list []) (.list []) (.list []) ++ H)) :
    WPC C A (.ref a.machine) [.tup [.int p, .int q, .int r, .int s], .ref ask] Q H := by
  have G := W.G
  obtain ⟨c, hF, hC⟩ := W.machine
  refine call_okC ok_machine G (fun s R => hF.keeps R.keep) hr rfl rfl rfl (vals := [some (.tup [.int p, .int q, .int r, .int s])]) rfl (VOk.get (.some .head (.rest rfl))) fun L cs A' env hcs hr' FE he => ?_
  obtain ⟨c1, c2, c3, c4, c5, rfl⟩ := cells5 hcs
  refine ⟨_, .other (.other (.other (.other (.param (.tail .head) .nil)))), ?_⟩
  have hA := hr'.hd
  simp only [List.cons_append, List.nil_append]
  repeat walk_at "s"
  refine wp1_Assign ?_
  repeat walk_at "s"
  intro ll
  repeat walk_at "s"
  refine sp_stream W (hr'.mono (by decide)) (by walk_at "mem") ?_
  intro fd fp rd cl
  repeat walk_at "s"
  refine sp_net W (hr'.mono (by decide)) ?_
  intro x dx pb
  repeat walk_at "s"
  intro bx
  repeat walk_at "s"
  intro ak
  repeat walk_at "s"
  intro hd
  repeat walk_at "s"
  refine asg_Tuple hA (wpas_cons ?_)
  repeat walk_at "s"
  refine wpas_cons ?_
  repeat walk_at "s"
  refine wpas_cons ?_
  repeat walk_at "s"
  refine wpas_cons ?_
  repeat walk_at "s"
  refine wpas_nil ?_
  repeat walk_at "s"
  refine WP.nd fun nd => ?_
  have hne : pb ≠ ll := nd_ne nd (i := 5) (j := 10) (by decide) rfl rfl
  refine wp_LambdaF (F_mlam (mclos c1 c2 c3 c4 c5)) (q := "_law_machine.<locals>.<lambda>") G (by rw [he]; rfl) hC (by rw [he]; rfl) (by walk_at "mem") (closure_of (fs := ["ask", "asked", "box", "heard", "line"]) (cs := [c5, c4, c3, c2, c1]) FE (by decide +kernel) rfl (by simp)) ?_ (by rw [he]; exact mlamQual)
  intro lm
  repeat walk_at "s"
  refine ⟨_, ?_, k ⟨x, dx, pb, fp, fd, rd, cl, ll, bx, ak, hd⟩ lm c1 c2 c3 c4 c5 hne⟩
  repeat refine .pick .head ?_
  exact .drop (.refl _)
end
end
noncomputable section
structure RS where
  cs : List Nat
  n : Int
  nt : List (Int × Int)
noncomputable abbrev ntV (l : List (Int × Int)) : List V := l.map fun p => .tup [.int p.1, .int p.2]
noncomputable abbrev rclos (c1 c2 c3 c4 : Addr) : List (Str × Addr) := [("text", c1), ("reader", c2), ("notes", c3), ("left", c4)]
structure Ra where
  (al x dx pb fd fp rd cl nt ll c1 c2 c3 c4 : Addr)
noncomputable abbrev B0 (a : Ad) (g : Ra) (R : AH) (z : RS) : AH :=
  (g.al, .fn (F_rlam (rclos g.c1 g.c2 g.c3 g.c4))) :: (g.x, .obj (instObj a.cls g.dx)) :: (g.dx, .attrs (netA z.n (.ref g.fp) g.pb)) :: (g.pb, .list []) :: (g.fd, .attrs [("read", .ref g.rd)]) :: (g.fp, .fobj g.fd) :: (g.rd, .fn (F_lam [("left", g.cl)])) :: (g.cl, .cell (some (.ref g.ll))) ::
    (g.nt, .list (ntV z.nt)) :: (g.ll, .list (signVs z.cs)) :: R
structure RdR (g : Ra) (tx : List Nat) (R : AH) : Prop where
  t : (g.c1, AO.cell (some (.str (mkS tx)))) ∈ R
  r : (g.c2, AO.cell (some (.ref g.x))) ∈ R
  n : (g.c3, AO.cell (some (.ref g.nt))) ∈ R
  l : (g.c4, AO.cell (some (.ref g.ll))) ∈ R
noncomputable def St0 (tx : List Nat) (z : RS) (w : Option Int) (z' : RS) : Prop :=
  ∃ cs' n', tGo z.cs z.n = (owW w, cs', n') ∧ z' = ⟨cs', n', z.nt ++ [((tx.length : Int) - (cs'.length : Int), n')]⟩ ∧ z.cs.length ≤ 80000 ∧ cs'.length ≤ 80000 ∧ tx.length ≤ 80000 ∧ z.nt.length ≤ 10000
section
variable {C : Cfg} {a : Ad} {A : Around} {H H' : AH} {Q : V → AH → Prop} {l : List Env}
theorem asks_rd {g : Ra} {tx : List Nat} {R : AH} (W : W3 C a) (hR : RdR g tx R) : Asks0 C (B0 a g R) g.al (St0 tx) 8 := fun {A l Q} pre z w z' hr hfr hS ho q => by
  have G := W.G
  obtain ⟨cs', n', ht, rfl, hz1, hz2, hz3, hz4⟩ := ho
  obtain ⟨cs, n, nt⟩ := z
  dsimp only at ht hz1 hz4 q
  refine call_okE (cl := rclos g.c1 g.c2 g.c3 g.c4) (ok_rlam _) G (fnAt_of_fn (List.mem_append_right _ (.head _))) hr rfl rfl (by walk_at "init") rfl rfl fun L cd A' env hr' hD FE he => ?_
  have m1 : ∀ {p}, p ∈ R → ∀ z, p ∈ pre ++ B0 a g R z := fun h z => List.mem_append_right _ (.tail _ (.tail _ (.tail _ (.tail _ (.tail _ (.tail _ (.tail _ (.tail _ (.tail _ (.tail _ h))))))))))
  have t1 := m1 hR.t ⟨cs, n, nt⟩
  have t2 := m1 hR.r ⟨cs, n, nt⟩
  have t3 := m1 hR.n ⟨cs', n', nt⟩
  have t4 := m1 hR.l ⟨cs', n', nt⟩
  have t5 := m1 hR.t ⟨cs', n', nt⟩
  have t6 := m1 hR.r ⟨cs', n', nt⟩
  have hx : ∀ z, (g.x, AO.obj (instObj a.cls g.dx)) ∈ pre ++ B0 a g R z := fun z => List.mem_append_right _ (.tail _ (.head _))
  have hd : ∀ z : RS, (g.dx, AO.attrs (netA z.n (.ref g.fp) g.pb)) ∈ pre ++ B0 a g R z := fun z => List.mem_append_right _ (.tail _ (.tail _ (.head _)))
  repeat walk_at "s"
  refine gm_get W (.tail _ (hx _)) (.tail _ (hd _)) ?_
  repeat walk_at "s"
  have hK : Hole2 g.ll (.list (signVs cs)) g.dx (.attrs (netA n (.ref g.fp) g.pb)) (pre ++ B0 a g R ⟨cs, n, nt⟩) _ := Hole2.pre (.tail (.tail (.snd (.tail (.tail (.tail (.tail (.tail (.tail .head))))))))) pre
  refine sp_get_rd (fd := g.fd) (rd := g.rd) (cl := g.cl) (tok := owW w) (cs' := cs') (n' := n') W (hr'.mono (by decide)) (.tail hK) hz1 (fun u v => ⟨.tail _ (List.mem_append_right _ (.tail _ (.head _))), .tail _ (List.mem_append_right _ (by walk_at "mem")), .tail _ (List.mem_append_right _ (by walk_at "mem")), .tail _ (List.mem_append_right _ (by walk_at "mem")), .tail _ (List.mem_append_right _ (by walk_at "mem"))⟩)
    (fun u v => .tail _ (List.mem_append_right _ (.tail _ (.tail _ (.tail _ (.head _)))))) ht ?_
  show WPL C A' env _ _ _ ((L, .ns [] []) :: (pre ++ B0 a g R ⟨cs', n', nt⟩))
  have hnt : ∀ nt2, Mine.Internal.Upd g.nt (.list (ntV nt)) (.list nt2) (pre ++ B0 a g R ⟨cs', n', nt⟩) _ := fun nt2 => Upd.pre (.tail (.tail (.tail (.tail (.tail (.tail (.tail (.tail .head)))))))) pre
  have hll : (g.ll, AO.list (signVs cs')) ∈ pre ++ B0 a g R ⟨cs', n', nt⟩ := List.mem_append_right _ (by walk_at "mem")
  repeat walk_at "s"
  refine wpm_append (.tail _ (hnt []).mem) ?_
  repeat walk_at "s"
  refine c_len_str (by rw [mkS_len]; exact Nat.le_trans hz3 (by decide)) ?_
  repeat walk_at "s"
  refine c_len_list (vs := signVs cs') (.tail _ hll) (by rw [List.length_map]; exact Nat.le_trans hz2 (by decide)) ?_
  rw [List.length_map]
  repeat walk_at "s"
  refine ga_line W (.tail _ (hx ⟨cs', n', nt⟩)) (.tail _ (hd ⟨cs', n', nt⟩)) ?_
  repeat walk_at "s"
  refine c_append (.tail (hnt _)) (by rw [List.length_map]; exact Nat.le_trans hz4 (by decide)) ?_
  repeat walk_at "s"
  intro tl
  repeat walk_at "s"
  refine gi_list (v := .str (mkS (owW w))) (.head _) (by decide) rfl (Nat.le_of_ble_eq_true rfl) ?_
  have en : ntV nt ++ [V.tup [.int (((mkS tx).length : Nat) - (cs'.length : Nat) : Int), .int n']] = ntV (nt ++ [((tx.length : Int) - (cs'.length : Int), n')]) := by rw [ntV, ntV, List.map_append, mkS_len]; rfl
  refine ⟨_, .drop (.drop (.refl _)), ?_⟩
  rw [en]
  exact q
end
end
noncomputable section
theorem rlamQual : F_run.qual ++ ".<locals>." ++ "<lambda>" = ("_law_run.<locals>.<lambda>" : Str) := by decide +kernel
inductive Ch {σ : Type} (St : σ → Option Int → σ → Prop) : σ → List (Option Int) → σ → Prop
  | nil {z : σ} : Ch St z [] z
  | cons {z z' z'' : σ} {w : Option Int} {ws : List (Option Int)} (h : St z w z') (r : Ch St z' ws z'') : Ch St z (w :: ws) z''
noncomputable abbrev owV (l : List (Option Int)) : List V := l.map fun w => V.str (mkS (owW w))
noncomputable abbrev K1A (a : Ad) (g1 : Lx) (lm1 e1 e2 e3 e4 e5 : Addr) (g : Ra) (R : AH) : AO → AO → AO → AO → RS → AH := fun u v x y z => mD a g1 lm1 e1 e2 e3 e4 e5 g.al u v x y ++ B0 a g R z
noncomputable abbrev K2A (a : Ad) (g2 : Lx) (lm2 f1 f2 f3 f4 f5 : Addr) (g1 : Lx) (lm1 e1 e2 e3 e4 e5 : Addr) (g : Ra) (R : AH) : AO → AO → AO → AO → Mc RS → AH := fun u v x y z => mD a g2 lm2 f1 f2 f3 f4 f5 lm1 u v x y ++ MK (K1A a g1 lm1 e1 e2 e3 e4 e5 g R) z
theorem Ch.step {σ : Type} {St : σ → Option Int → σ → Prop} {z z' : σ} {ws : List (Option Int)} {i : Nat} (h : Ch St z (ws.drop i) z') (hi : i < ws.length) : ∃ z1, St z ws[i] z1 ∧ Ch St z1 (ws.drop (i + 1)) z' := by
  rw [List.drop_eq_getElem_cons hi] at h
  cases h with
  | cons h r => exact ⟨_, h, r⟩
section
variable {C : Cfg} {gl : List (Str × V)} {a : Ad} {A : Around} {H H' : AH} {Q : V → AH → Prop} {l : List Env}
theorem call_okCF {fa : Addr} {F : FnA} {cd : Value} {pn ln gn cn : List Str} {xs : List V} {vals : List (Option V)} {body : List Stmt} {n : Nat} (O : FnOk F pn ln gn cn [])
    (G : C.Ok gl) (hF : ∀ s, Rel C H s → FnAt s.heap fa F cd) (hroom : Room A (n + 1)) (hfr : A.frames = some l) (hb : F.body = .stmts body) (hclo : F.closure = []) (hpl : pn.length = xs.length)
    (hv : ln.length = vals.length) (hvals : ∀ (k : Nat) x u, ln[k]? = some x → vals[k]? = some (some u) → At pn (xs.map some) x u)
    (h : ∀ L cs A' env, cs.map (·.1) = cn → Room A' n → A'.frames = some (env :: l) → env.frame = some L → env.scope.kind ≠ .module → FEnv env L ln cs gn → env = envF F L fa cd cs → ∃ Hc, CInit pn (xs.map some) cs Hc ∧ WPS C A' env body (fun fl H₁ => ∃ H₂, Sub H₂ H₁ ∧ Q fl.val H₂) (Hc ++ (L, .ns ln vals) :: H)) :
    WPC C A (.ref fa) xs Q H :=
  WPC.of_code (fun s R => (hF s R).ex.elim fun o p => p.elim fun fd q => ⟨o, fd, q.get, q.dat⟩)
    (code_fnC G hF hroom hb hclo O.binds hpl O.ndp (fun x hx => (O.hl x hx).1) O.nd (fun x hx => by
      rcases O.pk x hx with h | h
      · exact .inl (O.hl x h).1
      · exact .inr (O.hc x h).1)
    (fun L x hx hk => by
      have hm : x ∈ cn := by
        rcases O.pk x hx with h | h
        · rw [(O.hl x h).1] at hk; cases hk
        · exact h
      rw [← O.cells L] at hm
      obtain ⟨p, hp, rfl⟩ := List.mem_map.mp hm
      rw [(O.cellsLook L hp).2]; rfl)
    (fun L p hp => ⟨(O.hc p.1 (O.cellsLook L hp).1).1, (O.cellsLook L hp).2⟩) hv hvals
    (fun L => by
      obtain ⟨Hc, ci, hw⟩ := h L _ _ _ (O.cells L) (hroom.deeper _) (Around.frames_deeper hfr) rfl (by show F.scope.kind ≠ _; rw [O.kind]; decide) (O.envC L fa cd) rfl
      exact ⟨Hc, ci, hw⟩) O.co O.gen O.kind)
noncomputable abbrev runL : List Str := ["there", "back", "ask", "one", "asked_one", "heard_one", "asked_two", "heard_two", "came"]
inductive RnI (tx : List Nat) (ws : List (Option Int)) (N : Mc (Mc RS)) (c b r : Addr) (rg : AO) (K : AO → AO → AO → AO → Mc RS → AH) (i : Nat) (acc : List V) (H₁ : AH) : Prop
  | mk (m : Mc (Mc RS)) (o : Option V) (h : Ch (StM (StM (St0 tx))) m (ws.drop i) N) (e : acc = owV (ws.take i)) (e2 : H₁ = (c, .ns ["turn"] [o]) :: (b, .list acc) :: (r, rg) :: MK K m) : RnI tx ws N c b r rg K i acc H₁
noncomputable def RB : List Stmt := cbody (nth PW.main.body 20)
theorem run_tail {tx : List Nat} {N m0 : Mc (Mc RS)} {mb : Mc RS} {zf : RS} {ws : List (Option Int)} {w1 w2 : Option Int} {env : Env} {L d1 d2 d3 d4 d5 al lm1 lm2 k1 k2 g1 g2 nt : Addr} {u0 u1 : Option V} {K2 : AO → AO → AO → AO → AO → Mc RS → AH} {P : Fl → AH → Prop} (W : W3 C a) (hr : Room A 139) (hfr : A.frames = some l)
    (FE : FEnv env L runL [("reader", d1), ("notes", d2), ("left", d3), ("two", d4), ("text", d5)] ["list", "_netrclex", "_law_stream", "_law_machine", "range"]) (hws : ws.length = 9) (h9 : Ch (StM (StM (St0 tx))) m0 ws N) (h1 : StM (St0 tx) N.z w1 mb) (h2 : St0 tx mb.z w2 zf)
    (hU : ∀ m x y, Upd L x y (MK (K2 x) m) (MK (K2 y) m)) (m4 : ∀ m x, (d4, AO.cell (some (.ref lm2))) ∈ MK (K2 x) m) (m2 : ∀ m x, (d2, AO.cell (some (.ref nt))) ∈ MK (K2 x) m)
    (hSt : ∀ m, Stk l (MK (K2 (.ns runL [u0, u1, some (.ref al), some (.ref lm1), some (.ref k1), some (.ref g1), some (.ref k2), some (.ref g2), none])) m)) (A2 : Asks0 C (MK (K2 (.ns runL [u0, u1, some (.ref al), some (.ref lm1), some (.ref k1), some (.ref g1), some (.ref k2), some (.ref g2), none]))) lm2 (StM (StM (St0 tx))) 90) (A1 : Asks C (K2 (.ns runL [u0, u1, some (.ref al), some (.ref lm1), some (.ref k1), some (.ref g1), some (.ref k2), some (.ref g2), none])) lm1 (StM (St0 tx)) 49)
    (A0 : ∀ {A : Around} {Q : V → AH → Prop} (p1 p2 : Addr × AO) (m : Mc (Mc RS)) (w : Option Int) (z : RS), Room A 8 → A.frames = some l → (∀ m, Stk l (p1 :: p2 :: MK (K2 (.ns runL [u0, u1, some (.ref al), some (.ref lm1), some (.ref k1), some (.ref g1), some (.ref k2), some (.ref g2), none])) m)) → St0 tx m.z.z w z → Q (.str (mkS (owW w))) (p1 :: p2 :: MK (K2 (.ns runL [u0, u1, some (.ref al), some (.ref lm1), some (.ref k1), some (.ref g1), some (.ref k2), some (.ref g2), none])) { m with z := { m.z with z := z } }) → WPC C A (.ref al) [] Q (p1 :: p2 :: MK (K2 (.ns runL [u0, u1, some (.ref al), some (.ref lm1), some (.ref k1), some (.ref g1), some (.ref k2), some (.ref g2), none])) m))
    (q : ∀ la lh cm p1 p2 p3, P (.ret (.tup [.ref la, .ref lh, .ref nt])) ((lh, .list [.ref g1, .ref g2, .ref cm]) :: (la, .list [.ref k1, .ref k2]) :: (cm, .list (owV (ws ++ [w1, w2]))) :: p1 :: p2 :: p3 :: MK (K2 (.ns runL [u0, u1, some (.ref al), some (.ref lm1), some (.ref k1), some (.ref g1), some (.ref k2), some (.ref g2), some (.ref cm)])) { N with z := { mb with z := zf } })) :
    WPS C A env (RB.drop 5) P (MK (K2 (.ns runL [u0, u1, some (.ref al), some (.ref lm1), some (.ref k1), some (.ref g1), some (.ref k2), some (.ref g2), none])) m0) := by
  have G := W.G
  have hA := hr.hd
  have nL := fun m => (hU m (.ns runL [u0, u1, some (.ref al), some (.ref lm1), some (.ref k1), some (.ref g1), some (.ref k2), some (.ref g2), none]) (.ns runL [u0, u1, some (.ref al), some (.ref lm1), some (.ref k1), some (.ref g1), some (.ref k2), some (.ref g2), none])).mem
  have n2 := fun m => m2 m
  have FE0 := FE
  refine wps_cons ?_
  refine wp1_Assign_Name ?_
  refine wp_BinOp ?_
  refine wp_LC (ln' := ["turn"]) (gn' := []) (fs := ["two"]) (cs := [d4]) FE (by kernel_rfl) (List.forall_mem_cons.mpr ⟨by walk_at "mem", List.forall_mem_nil _⟩) ?_
  refine wpi_value ?_
  repeat walk_at "s"
  refine c_range1 ?_
  intro r t u v
  repeat walk_at "s"
  refine pi_range (a := 0) (b := 9) hA (by decide) (by decide) (.head _) ?_
  intro b c' cenv FE
  replace FE : FEnv cenv c' ["turn"] [("two", d4)] [] := FE
  refine ⟨RnI tx ws N c' b r (.obj (rangeObj 0 9 1 t u v)) (K2 (.ns runL [u0, u1, some (.ref al), some (.ref lm1), some (.ref k1), some (.ref g1), some (.ref k2), some (.ref g2), none])), 9, .mk m0 none h9 rfl rfl, ?_⟩
  rintro i acc H₁ hi ⟨m, o, hch, rfl, rfl⟩
  by_cases h : i < 9
  · left
    refine E12 (hch.step (hws ▸ h)) fun m' hst hch' => ?_
    refine ⟨.int (i : Nat), h, range_item (p := 9) (k := i) (by simp [h]), asg_Name (store_local FE .head .head (wpt_nil ⟨fun zz => ?_, fun e => nomatch e⟩))⟩
    have n4 := m4 m (.ns runL [u0, u1, some (.ref al), some (.ref lm1), some (.ref k1), some (.ref g1), some (.ref k2), some (.ref g2), none])
    repeat walk_at "s"
    refine A2 [(c', _), (b, _), (r, _)] m _ m' (hr.mono (by decide)) hfr (fun m => (hSt m).to fun p h => .tail _ (.tail _ (.tail _ h))) hst ?_
    refine ⟨by rw [List.length_map, List.length_take]; lia, _, .tail .head, .mk m' _ hch' ?_ rfl⟩
    rw [List.take_add_one, List.getElem?_eq_getElem (hws ▸ h), owV, owV, List.map_append]; rfl
  · right
    have e9 : i = 9 := Nat.le_antisymm hi (Nat.le_of_not_lt h)
    subst e9
    refine ⟨range_end (p := 9), _, _, .head, ?_⟩
    rw [List.drop_eq_nil_of_le (Nat.le_of_eq hws)] at hch
    cases hch
    rw [List.take_of_length_le (Nat.le_of_eq hws)]
    have FE := FE0
    have nm := nL N
    repeat walk_at "s"
    refine A1 [(b, _), (r, _)] N _ mb (hr.mono (by decide)) hfr (fun m => (hSt m).to fun p h => .tail _ (.tail _ h)) h1 ?_
    show WPL C A env _ _ _ ((b, _) :: (r, _) :: MK _ _)
    have nm := nL { N with z := mb }
    repeat walk_at "s"
    refine A0 _ _ _ _ zf (hr.mono (by decide)) hfr (fun m => (hSt m).to fun p h => .tail _ (.tail _ h)) h2 ?_
    have nm := nL { N with z := { mb with z := zf } }
    repeat walk_at "s"
    intro b2
    refine op_add_list (.tail _ (.head _)) (.head _) (by rw [List.length_map, hws]; exact Nat.le_of_ble_eq_true rfl) ?_
    intro cm
    have ecm : owV ws ++ [V.str (mkS (owW w1)), V.str (mkS (owW w2))] = owV (ws ++ [w1, w2]) := by rw [owV, owV, List.map_append]; rfl
    rw [ecm]
    refine store_local FE (.tail (.tail (.tail (.tail (hU _ _ (.ns runL [u0, u1, some (.ref al), some (.ref lm1), some (.ref k1), some (.ref g1), some (.ref k2), some (.ref g2), some (.ref cm)])))))) (by walk_at "put") ?_
    have nm := (hU { N with z := { mb with z := zf } } (.ns runL [u0, u1, some (.ref al), some (.ref lm1), some (.ref k1), some (.ref g1), some (.ref k2), some (.ref g2), some (.ref cm)]) (.ns runL [u0, u1, some (.ref al), some (.ref lm1), some (.ref k1), some (.ref g1), some (.ref k2), some (.ref g2), some (.ref cm)])).mem
    have n2 := m2 { N with z := { mb with z := zf } } (.ns runL [u0, u1, some (.ref al), some (.ref lm1), some (.ref k1), some (.ref g1), some (.ref k2), some (.ref g2), some (.ref cm)])
    repeat walk_at "s"
    intro la
    repeat walk_at "s"
    intro lh
    repeat walk_at "s"
    exact q la lh cm _ _ _
noncomputable abbrev RR (g : Ra) (L d4 lm2 : Addr) (tx : List Nat) (H : AH) (x : AO) : AH := (g.c2, .cell (some (.ref g.x))) :: (g.c3, .cell (some (.ref g.nt))) :: (g.c4, .cell (some (.ref g.ll))) :: (d4, .cell (some (.ref lm2))) :: (g.c1, .cell (some (.str (mkS tx)))) :: (L, x) :: H
noncomputable abbrev KR (a : Ad) (g2 : Lx) (lm2 f1 f2 f3 f4 f5 : Addr) (g1 : Lx) (lm1 e1 e2 e3 e4 e5 : Addr) (g : Ra) (L d4 : Addr) (tx : List Nat) (H : AH) (x : AO) := K2A a g2 lm2 f1 f2 f3 f4 f5 g1 lm1 e1 e2 e3 e4 e5 g (RR g L d4 lm2 tx H x)
theorem run_fin {g2 : Lx} {lm2 f1 f2 f3 f4 f5 : Addr} {g1 : Lx} {lm1 e1 e2 e3 e4 e5 : Addr} {g : Ra} {L d4 : Addr} {tx : List Nat} {x : AO} {m : Mc (Mc RS)} {p1 p2 p3 : Addr × AO} {la lh cm : Addr} {y z u : AO} :
    Sub ((la, y) :: (lh, z) :: (g1.ak, akA m.z.ak) :: (g2.ak, akA m.ak) :: (g1.hd, pbA m.z.hd) :: (g2.hd, pbA m.hd) :: (cm, u) :: (g.nt, .list (ntV m.z.z.nt)) :: H) ((lh, z) :: (la, y) :: (cm, u) :: p1 :: p2 :: p3 :: MK (KR a g2 lm2 f1 f2 f3 f4 f5 g1 lm1 e1 e2 e3 e4 e5 g L d4 tx H x) m) := by
  dsimp only [MK, KR, K2A, K1A, mD, B0, RR, List.cons_append, List.nil_append]
  repeat refine .pick (by walk_at "pick") ?_
  walk_at "sub"
theorem run_mid {tx : List Nat} {N m0 : Mc (Mc RS)} {mb : Mc RS} {zf : RS} {ws : List (Option Int)} {w1 w2 : Option Int} {env : Env} {g : Ra} {g1 g2 : Lx} {L d4 lm1 lm2 e1 e2 e3 e4 e5 f1 f2 f3 f4 f5 : Addr} {u0 u1 : Option V} {P : Fl → AH → Prop} (W : W3 C a) (hr : Room A 139) (hfr : A.frames = some (env :: l)) (hfL : env.frame = some L) (hkd : env.scope.kind ≠ .module)
    (hS : Stk l H) (hT : Tabs a H) (hne1 : g1.pb ≠ g1.ll) (hne2 : g2.pb ≠ g2.ll) (FE : FEnv env L runL [("reader", g.c2), ("notes", g.c3), ("left", g.c4), ("two", d4), ("text", g.c1)] ["list", "_netrclex", "_law_stream", "_law_machine", "range"]) (hws : ws.length = 9) (h9 : Ch (StM (StM (St0 tx))) m0 ws N) (h1 : StM (St0 tx) N.z w1 mb) (h2 : St0 tx mb.z w2 zf)
    (q : ∀ la lh cm p1 p2 p3, P (.ret (.tup [.ref la, .ref lh, .ref g.nt])) ((lh, .list [.ref g1.hd, .ref g2.hd, .ref cm]) :: (la, .list [.ref g1.ak, .ref g2.ak]) :: (cm, .list (owV (ws ++ [w1, w2]))) :: p1 :: p2 :: p3 :: MK (KR a g2 lm2 f1 f2 f3 f4 f5 g1 lm1 e1 e2 e3 e4 e5 g L d4 tx H (.ns runL [u0, u1, some (.ref g.al), some (.ref lm1), some (.ref g1.ak), some (.ref g1.hd), some (.ref g2.ak), some (.ref g2.hd), some (.ref cm)])) { N with z := { mb with z := zf } })) :
    WPS C A env (RB.drop 5) P (MK (KR a g2 lm2 f1 f2 f3 f4 f5 g1 lm1 e1 e2 e3 e4 e5 g L d4 tx H (.ns runL [u0, u1, some (.ref g.al), some (.ref lm1), some (.ref g1.ak), some (.ref g1.hd), some (.ref g2.ak), some (.ref g2.hd), none])) m0) := by
  have inR : ∀ {p z} (x : AO), p ∈ RR g L d4 lm2 tx H x → p ∈ B0 a g (RR g L d4 lm2 tx H x) z := fun x h => .tail _ (.tail _ (.tail _ (.tail _ (.tail _ (.tail _ (.tail _ (.tail _ (.tail _ (.tail _ h)))))))))
  have inH : ∀ {p} (x : AO), p ∈ H → p ∈ RR g L d4 lm2 tx H x := fun x h => .tail _ (.tail _ (.tail _ (.tail _ (.tail _ (.tail _ h)))))
  have M1 : ∀ x, MH a g1 (K1A a g1 lm1 e1 e2 e3 e4 e5 g (RR g L d4 lm2 tx H x)) := fun x => mD_MH hne1 fun z => hT.to fun p h => inR x (inH x h)
  have A0 : ∀ x, Asks0 C (B0 a g (RR g L d4 lm2 tx H x)) g.al (St0 tx) 8 := fun x => asks_rd W ⟨.tail _ (.tail _ (.tail _ (.tail _ (.head _)))), .head _, .tail _ (.head _), .tail _ (.tail _ (.head _))⟩
  have A1 : ∀ x, Asks0 C (MK (K1A a g1 lm1 e1 e2 e3 e4 e5 g (RR g L d4 lm2 tx H x))) lm1 (StM (St0 tx)) 49 := fun x => asks_lam W (M1 x) (Asks0.on (A0 x) (mD a g1 lm1 e1 e2 e3 e4 e5 g.al)) fun m => mD_lam m
  have in2 : ∀ {p} (m : Mc (Mc RS)) (x : AO), p ∈ RR g L d4 lm2 tx H x → p ∈ MK (KR a g2 lm2 f1 f2 f3 f4 f5 g1 lm1 e1 e2 e3 e4 e5 g L d4 tx H x) m := fun m x h => List.mem_append_right _ (List.mem_append_right _ (inR x h))
  refine run_tail (K2 := KR a g2 lm2 f1 f2 f3 f4 f5 g1 lm1 e1 e2 e3 e4 e5 g L d4 tx H) W hr hfr FE hws h9 h1 h2 (fun m x y => .app (.app (.tail (.tail (.tail (.tail (.tail (.tail (.tail (.tail (.tail (.tail (.tail (.tail (.tail (.tail (.tail .head))))))))))))))))) (fun m x => in2 m x (.tail _ (.tail _ (.tail _ (.head _))))) (fun m x => in2 m x (.tail _ (.head _)))
    (fun m e he => ?_) (asks_lam W (mD_MH hne2 fun z => (M1 _).T _ _ _ _ _) (Asks0.on (A1 _) (mD a g2 lm2 f1 f2 f3 f4 f5 lm1)) fun m => mD_lam m) (Asks0.on (A1 _) (mD a g2 lm2 f1 f2 f3 f4 f5 lm1))
    (fun p1 p2 m w z hr hfr hS hz q => Asks0.on (A0 _) (mD a g1 lm1 e1 e2 e3 e4 e5 g.al) (p1 :: p2 :: mD a g2 lm2 f1 f2 f3 f4 f5 lm1 (boxA m.p m.q m.r m.s m.t m.f) (pbA m.ws) (akA m.ak) (pbA m.hd)) m.z w z hr hfr (fun z => hS { m with z := z }) hz q) q
  rcases List.mem_cons.mp he with rfl | he
  · exact ⟨hkd, L, _, _, hfL, in2 m _ (.tail _ (.tail _ (.tail _ (.tail _ (.tail _ (.head _))))))⟩
  · exact (hS.to fun p h => in2 m _ (inH _ h)) e he
theorem sp_run {tx : List Nat} {p1 q1 r1 s1 p2 q2 r2 s2 : Int} {N : Mc (Mc RS)} {mb : Mc RS} {zf : RS} {ws : List (Option Int)} {w1 w2 : Option Int} (W : W3 C a) (hr : Room A 140) (hfr : A.frames = some l) (hS : Stk l H) (hT : Tabs a H) (hT1 : (a.pStream, AO.tab "_law_stream.<locals>.<lambda>") ∈ H) (hT2 : (a.pMachine, AO.tab "_law_machine.<locals>.<lambda>") ∈ H) (hT3 : (a.pRun, AO.tab "_law_run.<locals>.<lambda>") ∈ H)
    (htx : tx.length ≤ 80000) (hws : ws.length = 9) (h9 : Ch (StM (StM (St0 tx))) ⟨p2, q2, r2, s2, 0, false, [], [], [], ⟨p1, q1, r1, s1, 0, false, [], [], [], ⟨tx, 1, []⟩⟩⟩ ws N) (h1 : StM (St0 tx) N.z w1 mb) (h2 : St0 tx mb.z w2 zf)
    (q : ∀ la lh nt ak1 ak2 hd1 hd2 cm, Q (.tup [.ref la, .ref lh, .ref nt]) ((la, .list [.ref ak1, .ref ak2]) :: (lh, .list [.ref hd1, .ref hd2, .ref cm]) :: (ak1, akA mb.ak) :: (ak2, akA N.ak) :: (hd1, pbA mb.hd) :: (hd2, pbA N.hd) :: (cm, .list (owV (ws ++ [w1, w2]))) :: (nt, .list (ntV zf.nt)) :: H)) :
    WPC C A (.ref a.run) [.str (mkS tx), .tup [.int p1, .int q1, .int r1, .int s1], .tup [.int p2, .int q2, .int r2, .int s2]] Q H := by
  have G := W.G
  obtain ⟨c, hF, hC⟩ := W.run
  refine call_okCF ok_run G (fun s R => hF.keeps R.keep) hr hfr rfl rfl rfl (vals := [some (.tup [.int p1, .int q1, .int r1, .int s1]), some (.tup [.int p2, .int q2, .int r2, .int s2]), none, none, none, none, none, none, none]) rfl
    (VOk.get (.some (.tail .head) (.some (.tail (.tail .head)) (.rest rfl)))) fun L cs A' env hcs hr' hfr' hfL hkd FE he => ?_
  obtain ⟨d1, d2, d3, d4, d5, rfl⟩ := cells5 hcs
  refine ⟨_, .other (.other (.other (.other (.param .head .nil)))), ?_⟩
  have hA := hr'.hd
  simp only [List.cons_append, List.nil_append]
  refine wps_cons ?_
  refine wp1_Assign ?_ (hw := by exact noswap FE (by walk_at "mem") (.head _))
  repeat walk_at "s"
  refine c_list_str hA (by rw [mkS_len]; exact Nat.le_trans htx (by decide)) ?_
  intro ll
  have els : (mkS tx).cps.toList.map (fun c => V.str ⟨#[c]⟩) = signVs tx := rfl
  rw [els]
  repeat walk_at "s"
  intro nt
  repeat walk_at "s"
  refine asg_Tuple hA (wpas_cons ?_)
  repeat walk_at "s"
  refine wpas_cons ?_
  repeat walk_at "s"
  refine wpas_nil ?_
  repeat walk_at "s"
  refine sp_stream W (hr'.mono (by decide)) (by walk_at "mem") ?_
  intro fd fp rd cl
  repeat walk_at "s"
  refine sp_net W (hr'.mono (by decide)) ?_
  intro x dx pb
  repeat walk_at "s"
  refine wp_LambdaF (F_rlam (rclos d5 d1 d2 d3)) (q := "_law_run.<locals>.<lambda>") G (by rw [he]; rfl) hC (by rw [he]; rfl) (by walk_at "mem") (closure_of (fs := ["left", "notes", "reader", "text"]) (cs := [d3, d2, d1, d5]) FE (by decide +kernel) rfl (by simp)) ?_ (by rw [he]; exact rlamQual)
  intro al
  repeat walk_at "s"
  refine wp1_Assign ?_
  repeat walk_at "s"
  refine sp_machine W (hr'.mono (by decide)) (by walk_at "mem") (by walk_at "mem") fun g1 lm1 e1 e2 e3 e4 e5 hne1 => ?_
  simp only [mD, List.cons_append, List.nil_append]
  refine asg_Tuple hA (wpas_cons ?_)
  repeat walk_at "s"
  refine wpas_cons ?_
  repeat walk_at "s"
  refine wpas_cons ?_
  repeat walk_at "s"
  refine wpas_nil ?_
  repeat walk_at "s"
  refine wp1_Assign ?_
  repeat walk_at "s"
  refine sp_machine W (hr'.mono (by decide)) (by walk_at "mem") (by walk_at "mem") fun g2 lm2 f1 f2 f3 f4 f5 hne2 => ?_
  simp only [mD, List.cons_append, List.nil_append]
  refine asg_Tuple hA (wpas_cons ?_)
  repeat walk_at "s"
  refine wpas_cons ?_
  repeat walk_at "s"
  refine wpas_cons ?_
  repeat walk_at "s"
  refine wpas_nil ?_
  refine wps_next ?_
  exact run_mid (g := ⟨al, x, dx, pb, fd, fp, rd, cl, nt, ll, d5, d1, d2, d3⟩) (H := H) W hr' hfr' hfL hkd hS hT hne1 hne2 FE hws h9 h1 h2 fun la lh cm p1 p2 p3 => ⟨_, run_fin, q la lh nt _ _ _ _ cm⟩
end
end
noncomputable section
noncomputable def escG (st s : Nat) : Bool := decide (1 < st) || decide (s = 34) || (decide (s = 10) && decide (st = 0))
noncomputable def pieceG (st s : Nat) : List Nat := (if escG st s then [92] else []) ++ [s]
noncomputable def piecesG (st : Nat) (w : List Nat) : List (List Nat) := w.map (pieceG st)
noncomputable def wsQ (m : Nat) : List Nat := match m with | 0 => [] | 1 => [10] | 2 => [32] | _ => [10, 9]
noncomputable def wsB (m : Nat) : List Nat := match m with | 0 => [32] | 1 => [10] | 2 => [9, 10] | _ => [13, 10, 32]
theorem flat_le {k : Nat} : ∀ {l : List (List Nat)}, (∀ x ∈ l, x.length ≤ k) → l.flatten.length ≤ k * l.length
  | [], _ => by simp
  | x :: l, h => by
    have h1 := h x (.head _)
    have h2 := flat_le (l := l) fun y hy => h y (.tail _ hy)
    rw [List.flatten_cons, List.length_append, List.length_cons, Nat.mul_add, Nat.mul_one]; lia
theorem pieces_le (st : Nat) (w : List Nat) : (piecesG st w).flatten.length ≤ 2 * w.length := by
  have := flat_le (k := 2) (l := piecesG st w) fun x hx => by
    obtain ⟨k, _, rfl⟩ := List.mem_map.mp hx
    unfold pieceG
    split <;> simp
  simpa [piecesG] using this
theorem wsQ_le (m : Nat) : (wsQ m).length ≤ 3 := by unfold wsQ; split <;> simp
theorem wsB_le (m : Nat) : (wsB m).length ≤ 3 := by unfold wsB; split <;> simp
noncomputable def lastL (n en i : Nat) : Nat := if i + 1 = n then en else 0
noncomputable def gapL (c e : Nat) : List Nat := if e = 0 then (if c % 4 % 2 = 1 then wsQ (c / 4 % 4) else wsB (c / 4 % 4)) else []
noncomputable def bodyL (w : List Nat) (c e : Nat) : List Nat := if c % 4 % 2 = 1 then [34] ++ (piecesG (c % 4) w).flatten ++ (if e = 2 then [] else [34]) else (piecesG (c % 4) w).flatten
noncomputable def oneL (w : List Nat) (c e : Nat) : List Nat := bodyL w c e ++ gapL c e
noncomputable def txL (ws : List (List Nat)) (cs : List Nat) (en : Nat) : List (List Nat) := (List.range ws.length).map fun i => oneL (ws.getD i []) (cs.getD i 0) (lastL ws.length en i)
noncomputable def mkL (ws : List (List Nat)) (cs : List Nat) (en : Nat) : List Nat := (List.range ws.length).map fun i => ((txL ws cs en).take i).flatten.length + (bodyL (ws.getD i []) (cs.getD i 0) (lastL ws.length en i)).length + (if cs.getD i 0 % 4 % 2 = 1 then 0 else min 1 (gapL (cs.getD i 0) (lastL ws.length en i)).length)
theorem gapL_le (c e : Nat) : (gapL c e).length ≤ 3 := by
  unfold gapL
  have := wsQ_le (c / 4 % 4)
  have := wsB_le (c / 4 % 4)
  repeat' split
  all_goals first | assumption | simp
theorem bodyL_le (w : List Nat) (c e : Nat) : (bodyL w c e).length ≤ 2 * w.length + 2 := by
  have h1 := pieces_le (c % 4) w
  unfold bodyL
  split
  · have : (if e = 2 then [] else [34] : List Nat).length ≤ 1 := by split <;> simp
    simp only [List.length_append, List.length_cons, List.length_nil]; lia
  · exact Nat.le_add_right_of_le h1
theorem txL_le {ws : List (List Nat)} {cs : List Nat} {en : Nat} (hw : ∀ w ∈ ws, w.length ≤ 200) (i : Nat) : ((txL ws cs en).take i).flatten.length ≤ 405 * i := by
  refine Nat.le_trans (flat_le (k := 405) fun x hx => ?_) (Nat.mul_le_mul_left _ (List.length_take_le _ _))
  obtain ⟨k, hk, rfl⟩ := List.mem_map.mp (List.mem_of_mem_take hx)
  rw [oneL, List.length_append]
  have h1 := gapL_le (cs.getD k 0) (lastL ws.length en k)
  have h2 := bodyL_le (ws.getD k []) (cs.getD k 0) (lastL ws.length en k)
  have h3 := hw (ws.getD k []) (by have h := List.mem_range.mp hk; rw [List.getD_eq_getElem?_getD, List.getElem?_eq_getElem h]; exact List.getElem_mem _)
  lia
theorem n_sign : ("\n" : Str) = ⟨#[10]⟩ := by decide +kernel
section
variable {C : Cfg} {a : Ad} {A : Around} {H H' : AH} {Q : V → AH → Prop}
theorem gs_str_take {l : List Nat} {p : Nat} (hz : l.length ≤ 100000) (q : Q (.str (mkS (l.take p))) H) : GS C A (.str (mkS l)) none (some (p : Int)) none Q H := by
  have hi : Builtin.Str.strSliceIndices none (some (p : Int)) 1 (mkS l).length = (List.range (min p l.length)).map (0 + ·) := by
    have e : Builtin.Str.strSliceIndices none (some (p : Int)) 1 (mkS l).length = sliceRange (sliceBounds none (some (p : Int)) none (mkS l).length).1 (sliceBounds none (some (p : Int)) none (mkS l).length).2.1 (sliceBounds none (some (p : Int)) none (mkS l).length).2.2 := rfl
    rw [e, sliceBounds_plain, mkS_len]
    show sliceRange ((0 : Nat) : Int) (clipAt l.length p : Nat) 1 = _
    rw [sliceRange_one, clipAt_nat]; rfl
  refine gs_str (x := mkS l) (y := mkS (l.take p)) (st := none) (by decide) (by rw [mkS_len]; exact hz) ?_ ?_ ?_ q
  · rw [str_slice, pySlice_upto l p]
  · show (Builtin.Str.strSliceIndices none (some (p : Int)) 1 (mkS l).length).length ≤ _
    rw [hi, mkS_len]; simp; exact Nat.min_le_right _ _
  · intro hc
    have hc2 := (Bool.and_eq_true_iff.mp hc).2
    have : (Builtin.Str.strSliceIndices none (some (p : Int)) 1 (mkS l).length).length = (mkS l).length := eq_of_beq hc2
    rw [hi, mkS_len] at this
    rw [List.length_map, List.length_range] at this
    rw [List.take_of_length_le (by lia)]
inductive TxO (c1 : Addr) (L : Addr) (wl : Addr) (cl : Addr) (mk : Addr) (ws : List (List Nat)) (cs : List Nat) (en : Nat) (H : AH) (i : Nat) (H₁ : AH) : Prop
  | mk (oc o1 o2 o3 o4 o5 o6 : Option V) (h1 : H₁ = (mk, .list (natVs ((mkL ws cs en).take i))) :: (c1, .cell oc) :: (L, AO.ns ["words", "cells", "end", "text", "marks", "k", "word", "more", "last", "body", "gap"] [some (.ref wl), some (.ref cl), some (.int en), some (.str (mkS ((txL ws cs en).take i).flatten)), some (.ref mk), o1, o2, o3, o4, o5, o6]) :: H) : TxO c1 L wl cl mk ws cs en H i H₁
theorem sp_text {wl cl : Addr} {ws : List (List Nat)} {cs : List Nat} {en : Nat} (W : W3 C a) (hr : Room A 1) (hwl : (wl, AO.list (strVs ws)) ∈ H) (hcl : (cl, AO.list (natVs cs)) ∈ H) (hz : ws.length ≤ 30) (hcz : ws.length ≤ cs.length) (hcz2 : cs.length ≤ 30) (hwz : ∀ w ∈ ws, w.length ≤ 200) (hen : en < 3)
    (q : ∀ mk, Q (.tup [.str (mkS (txL ws cs en).flatten), .ref mk]) ((mk, .list (natVs (mkL ws cs en))) :: H)) : WPC C A (.ref a.text) [.ref wl, .ref cl, .int en] Q H := by
  have G := W.G
  obtain ⟨cd, hF⟩ := W.text
  refine call_okC ok_text G (fun s R => hF.keeps R.keep) hr rfl rfl rfl (vals := [some (.ref wl), some (.ref cl), some (.int en), none, none, none, none, none, none, none, none]) rfl (VOk.get (.some .head (.some (.tail .head) (.some (.tail (.tail .head)) (.rest rfl))))) fun L cs' A' env hcs hr' FE he => ?_
  obtain ⟨c1, rfl⟩ := cells1 hcs
  refine ⟨_, .other .nil, ?_⟩
  have hA := hr'.hd
  simp only [List.cons_append, List.nil_append]
  refine wps_cons ?_
  refine wp1_swap2 FE hA (by walk_at "mem") (by walk_at "mem") ?_
  repeat walk_at "s"
  intro mk
  repeat walk_at "s"
  refine wp1_For (wpi_Call ?_)
  repeat walk_at "s"
  refine ci_enum_list hA (by walk_at "mem") ?_
  refine ⟨TxO c1 L wl cl mk ws cs en H, 30, ?_, ?_⟩
  · refine ⟨none, none, none, none, none, none, none, ?_⟩
    rw [List.take_zero, List.take_zero, List.flatten_nil, ← mkS_nil]; rfl
  · rintro i H₁ ⟨oc, o1, o2, o3, o4, o5, o6, rfl⟩
    by_cases hlt : i < ws.length
    · left
      have hic : i < cs.length := Nat.lt_of_lt_of_le hlt hcz
      refine ⟨.tup [.int (i : Nat), .str (mkS ws[i])], by exact Nat.lt_of_lt_of_le hlt hz, enum_some (by walk_at "mem") (by simp [hlt]), ?_⟩
      have hw100 := hwz ws[i] (List.getElem_mem hlt)
      refine asg_Tuple hA (wpas_cons ?_)
      repeat walk_at "s"
      refine wpas_cons ?_
      repeat walk_at "s"
      refine wpas_nil ?_
      repeat walk_at "s"
      refine wp1_Assign ?_ (hw := by exact noswap (a := "style") FE (.head _) (by walk_at "mem"))
      repeat walk_at "s"
      refine gi_list (v := .int (cs[i] : Nat)) (by walk_at "mem") (Int.natCast_nonneg _) (by simp [hic]) (by rw [List.length_map]; lia) ?_
      repeat walk_at "s"
      refine op_mod_int (by decide) ?_
      rw [show ((cs[i] : Nat) : Int).fmod 4 = ((cs[i] % 4 : Nat) : Int) from fmod_nat _ 4]
      repeat walk_at "s"
      refine gi_list (v := .int (cs[i] : Nat)) (by walk_at "mem") (Int.natCast_nonneg _) (by simp [hic]) (by rw [List.length_map]; lia) ?_
      repeat walk_at "s"
      refine op_floordiv_int (by decide) (PyProof.noPylong_small (by decide)) ?_
      repeat walk_at "s"
      refine op_mod_int (by decide) ?_
      rw [show ((cs[i] : Nat) : Int).fdiv 4 = ((cs[i] / 4 : Nat) : Int) from fdiv_nat cs[i] 4, show ((cs[i] / 4 : Nat) : Int).fmod 4 = ((cs[i] / 4 % 4 : Nat) : Int) from fmod_nat _ 4]
      walk_at "s"
      refine WP.pin (.int (lastL ws.length en i : Nat)) ?_ ?_
      · refine wp_IfExp (WP.pin (T := BRel) (decide (i + 1 = ws.length)) ?_ ?_)
        · repeat walk_at "s"
          refine c_len_list (vs := strVs ws) (by walk_at "mem") (by rw [List.length_map]; lia) ?_
          repeat walk_at "s"
          exact ⟨decide_eq_decide.mpr (by rw [List.length_map]; lia), .refl _⟩
        · refine ⟨fun h => ?_, fun h => ?_⟩
          · repeat walk_at "s"
            exact ⟨by rw [lastL, if_pos (of_decide_eq_true h)], .refl _⟩
          · repeat walk_at "s"
            exact ⟨by rw [lastL, if_neg (of_decide_eq_false h)]; rfl, .refl _⟩
      repeat walk_at "s"
      refine asg_Tuple hA (wpas_cons ?_)
      repeat walk_at "s"
      refine wpas_cons ?_
      repeat walk_at "s"
      refine wpas_cons ?_
      repeat walk_at "s"
      refine wpas_nil ?_
      repeat walk_at "s"
      have hil : i < (txL ws cs en).length := by simp [txL, hlt]
      have hone : (txL ws cs en)[i] = oneL ws[i] cs[i] (lastL ws.length en i) := by simp [txL, hlt, hic]
      have htk : ((txL ws cs en).take (i + 1)).flatten = ((txL ws cs en).take i).flatten ++ oneL ws[i] cs[i] (lastL ws.length en i) := by
        rw [List.take_succ_eq_append_getElem hil, List.flatten_append, hone]; simp
      have hmk : (mkL ws cs en).take (i + 1) = (mkL ws cs en).take i ++ [((txL ws cs en).take i).flatten.length + (bodyL ws[i] cs[i] (lastL ws.length en i)).length + (if cs[i] % 4 % 2 = 1 then 0 else min 1 (gapL cs[i] (lastL ws.length en i)).length)] := by
        rw [List.take_succ_eq_append_getElem (by simp [mkL, hlt])]; simp [mkL, hlt, hic]
      have htl := txL_le (cs := cs) (en := en) hwz i
      have hmkl : ((mkL ws cs en).take i).length ≤ 30 := Nat.le_trans (List.length_take_le _ _) (by lia)
      have hel : lastL ws.length en i < 3 := by unfold lastL; split <;> omega
      generalize ((mkL ws cs en).take i) = mks at hmk hmkl ⊢
      generalize ((txL ws cs en).take i).flatten = tx at htk hmk htl ⊢
      generalize hle : lastL ws.length en i = e at htk hmk hel ⊢
      generalize hcc : cs[i] = cc at htk hmk ⊢
      generalize hst : cc % 4 = st
      generalize hwd : ws[i] = w at hw100 htk hmk ⊢
      refine wpm_join ?_
      repeat walk_at "s"
      have FE0 := FE
      refine wp_LC (ln' := ["sign"]) (gn' := []) (fs := ["style"]) (cs := [c1]) FE (by kernel_rfl) (List.forall_mem_cons.mpr ⟨by walk_at "mem", List.forall_mem_nil _⟩) ?_
      refine wpi_value ?_
      repeat walk_at "s"
      refine pi_str hA ?_
      intro b c cenv FE
      replace FE : FEnv cenv c ["sign"] [("style", c1)] [] := FE
      have hst4 : st < 4 := by rw [← hst]; exact Nat.mod_lt _ (by decide)
      generalize hmm : cc / 4 % 4 = mo
      have hmo4 : mo < 4 := by rw [← hmm]; exact Nat.mod_lt _ (by decide)
      refine turns_mapL (l := w) (g := fun s => .str (sg s)) (f := fun s => .str (mkS (pieceG st s))) FE (by lia) (fun i k o acc h => sign_some h) (fun o acc => sign_none) (fun ce hce acc => ?_) fun o => ?_
      · refine wp_BinOp (WP.pin (.str (mkS (if escG st ce then [92] else []))) ?_ ?_)
        · refine wp_IfExp (WP.pin (T := BRel) (escG st ce) ?_ ?_)
          · repeat walk_at "s"
            refine ⟨fun h => ?_, fun h => ?_⟩
            · have h' : 1 < st := Int.ofNat_lt.mp (of_decide_eq_true h)
              exact ⟨by simp [escG, h'], .refl _⟩
            · have h' : ¬ 1 < st := fun x => absurd (Int.ofNat_lt.mpr x) (of_decide_eq_false h)
              repeat walk_at "s"
              rw [sg_is ce 34 q_sign]
              refine ⟨fun h3 => ?_, fun h3 => ?_⟩
              · have h3' := of_decide_eq_true h3
                exact ⟨by simp [escG, h3'], .refl _⟩
              · have h3' := of_decide_eq_false h3
                repeat walk_at "s"
                rw [sg_is ce 10 n_sign]
                refine ⟨fun h4 => ?_, fun h4 => ?_⟩
                · have h4' := of_decide_eq_true h4
                  repeat walk_at "s"
                  refine ⟨fun h5 => ?_, fun h5 => ?_⟩
                  · have h5' : st = 0 := by simpa using h5
                    repeat walk_at "s"
                    refine ⟨fun zz => ?_, fun h6 => nomatch h6⟩
                    exact ⟨by simp [escG, h4', h5'], .refl _⟩
                  · have h5' : st ≠ 0 := by simpa using h5
                    refine ⟨fun h6 => (nomatch h6), fun zz => ?_⟩
                    repeat walk_at "s"
                    exact ⟨by simp only [escG, h', h3', h5', decide_false, Bool.and_false, Bool.or_false], .refl _⟩
                · have h4' := of_decide_eq_false h4
                  refine ⟨fun h6 => (nomatch h6), fun zz => ?_⟩
                  repeat walk_at "s"
                  exact ⟨by simp only [escG, h', h3', h4', decide_false, Bool.false_and, Bool.or_false], .refl _⟩
          · refine ⟨fun h => ?_, fun h => ?_⟩
            · rw [h]
              repeat walk_at "s"
              exact ⟨by rw [b_sign]; rfl, .refl _⟩
            · rw [h]
              repeat walk_at "s"
              exact ⟨by rw [mkS_nil]; rfl, .refl _⟩
        · repeat walk_at "s"
          have hif : (if escG st ce then [92] else [] : List Nat).length ≤ 1 := by split <;> simp
          refine op_add_str (by rw [mkS_len]; simp [Str.length]; lia) ?_
          exact ⟨by rw [mkS_app, pieceG], .refl _⟩
      · have FE := FE0
        refine ⟨_, _, .head, ?_⟩
        have ej : w.map (fun s => V.str (mkS (pieceG st s))) = ((piecesG st w).map mkS).map V.str := by simp [piecesG]
        rw [ej]
        have hpf := pieces_le st w
        repeat walk_at "s"
        refine c_join (by walk_at "mem") (by rw [sum_len, empty_len, Nat.mul_zero]; lia) ?_
        rw [tjoin_mkS]
        have hs34 : ("\"" : Str) = mkS [34] := by decide +kernel
        have hwp : ((piecesG st w).flatten).length ≤ 402 := by lia
        generalize hbd : (piecesG st w).flatten = bd at hwp ⊢
        refine Op1.sub (.drop (.refl _)) ?_
        refine store_local FE (by walk_at "upd") (by walk_at "put") ?_
        walk_at "s"
        walk_at "s"
        walk_at "s"
        refine WP.pin (.str (mkS (gapL cc e))) ?_ ?_
        · repeat walk_at "s"
          refine ⟨fun h => ?_, fun h => ?_⟩
          · have he0 : e ≠ 0 := by simpa using h
            repeat walk_at "s"
            exact ⟨by rw [gapL, if_neg he0, mkS_nil], .refl _⟩
          · have he0 : e = 0 := by simpa using h
            repeat walk_at "s"
            refine op_mod_int (by decide) ?_
            rw [show ((st : Nat) : Int).fmod 2 = ((st % 2 : Nat) : Int) from fmod_nat st 2]
            repeat walk_at "s"
            refine ⟨fun h => ?_, fun h => ?_⟩
            · have h' : st % 2 = 1 := by
                rcases Nat.mod_two_eq_zero_or_one st with e | e
                · rw [e] at h; exact absurd h (by decide)
                · exact e
              repeat walk_at "s"
              intro gl
              repeat walk_at "s"
              refine gi_list (v := .str (mkS (wsQ mo))) (by walk_at "mem") (by exact Int.natCast_nonneg mo) ?_ (by decide) ?_
              · rw [Int.toNat_natCast]
                have hcase : mo = 0 ∨ mo = 1 ∨ mo = 2 ∨ mo = 3 := by lia
                rcases hcase with e | e | e | e <;> rw [e] <;> exact congrArg (fun x => some (V.str x)) (by decide +kernel)
              exact ⟨by rw [gapL, if_pos he0, hst, if_pos h', hmm], .drop (.refl _)⟩
            · have h' : ¬ st % 2 = 1 := by
                rcases Nat.mod_two_eq_zero_or_one st with e | e
                · exact Nat.mod_two_ne_one.mpr e
                · rw [e] at h; exact absurd h (by decide)
              repeat walk_at "s"
              intro gl
              repeat walk_at "s"
              refine gi_list (v := .str (mkS (wsB mo))) (by walk_at "mem") (by exact Int.natCast_nonneg mo) ?_ (by decide) ?_
              · rw [Int.toNat_natCast]
                have hcase : mo = 0 ∨ mo = 1 ∨ mo = 2 ∨ mo = 3 := by lia
                rcases hcase with e | e | e | e <;> rw [e] <;> exact congrArg (fun x => some (V.str x)) (by decide +kernel)
              exact ⟨by rw [gapL, if_pos he0, hst, if_neg h', hmm], .drop (.refl _)⟩
        have hgl := gapL_le cc e
        have hbl : (bodyL w cc e).length ≤ 404 := by have := bodyL_le w cc e; lia
        have htl2 : tx.length ≤ 20000 := by lia
        rw [oneL] at htk
        generalize hg : gapL cc e = gp at htk hmk hgl ⊢
        generalize hbo : bodyL w cc e = bo at htk hmk hbl ⊢
        refine store_local FE (by walk_at "upd") (by walk_at "put") ?_
        iterate 6 walk_at "s"
        refine WP.pin (.str (mkS bo)) ?_ ?_
        · repeat walk_at "s"
          refine op_mod_int (by decide) ?_
          rw [show ((st : Nat) : Int).fmod 2 = ((st % 2 : Nat) : Int) from fmod_nat st 2]
          repeat walk_at "s"
          refine ⟨fun h => ?_, fun h => ?_⟩
          · have h' : st % 2 = 1 := by
              rcases Nat.mod_two_eq_zero_or_one st with e | e
              · rw [e] at h; exact absurd h (by decide)
              · exact e
            repeat walk_at "s"
            rw [hs34]
            refine op_add_str (by simp only [mkS_len, List.length_cons, List.length_nil]; lia) ?_
            rw [mkS_app]
            repeat walk_at "s"
            refine ⟨fun h => ?_, fun h => ?_⟩
            · have h2 : e = 2 := Int.ofNat_inj.mp (of_decide_eq_true h)
              repeat walk_at "s"
              rw [mkS_nil]
              refine op_add_str (by simp only [mkS_len, List.length_append, List.length_cons, List.length_nil]; lia) ?_
              rw [mkS_app]
              exact ⟨by rw [← hbo, bodyL, hst, if_pos h', hbd, if_pos h2], .refl _⟩
            · have h2 : e ≠ 2 := fun x => of_decide_eq_false h (congrArg Int.ofNat x)
              repeat walk_at "s"
              refine op_add_str (by simp only [mkS_len, List.length_append, List.length_cons, List.length_nil]; lia) ?_
              rw [mkS_app]
              exact ⟨by rw [← hbo, bodyL, hst, if_pos h', hbd, if_neg h2], .refl _⟩
          · have h' : ¬ st % 2 = 1 := by
              rcases Nat.mod_two_eq_zero_or_one st with e | e
              · exact Nat.mod_two_ne_one.mpr e
              · rw [e] at h; exact absurd h (by decide)
            repeat walk_at "s"
            exact ⟨by rw [← hbo, bodyL, hst, if_neg h', hbd], .refl _⟩
        refine op_add_str (by simp only [mkS_len]; lia) ?_
        rw [mkS_app]
        repeat walk_at "s"
        refine op_add_str (by simp only [mkS_len, List.length_append]; lia) ?_
        rw [mkS_app]
        repeat walk_at "s"
        refine wpm_append (.head _) ?_
        repeat walk_at "s"
        refine c_len_str (by simp only [mkS_len, List.length_append]; lia) ?_
        repeat walk_at "s"
        refine c_len_str (by simp only [mkS_len]; lia) ?_
        walk_at "s"
        refine WP.pin (.int ((if st % 2 = 1 then 0 else min 1 gp.length : Nat) : Int)) ?_ ?_
        · repeat walk_at "s"
          refine op_mod_int (by decide) ?_
          rw [show ((st : Nat) : Int).fmod 2 = ((st % 2 : Nat) : Int) from fmod_nat st 2]
          repeat walk_at "s"
          refine ⟨fun h => ?_, fun h => ?_⟩
          · have h' : st % 2 = 1 := by
              rcases Nat.mod_two_eq_zero_or_one st with e | e
              · rw [e] at h; exact absurd h (by decide)
              · exact e
            repeat walk_at "s"
            exact ⟨by rw [if_pos h']; rfl, .refl _⟩
          · have h' : ¬ st % 2 = 1 := by
              rcases Nat.mod_two_eq_zero_or_one st with e | e
              · lia
              · rw [e] at h; exact absurd h (by decide)
            repeat walk_at "s"
            refine gs_str_take (p := 1) (by lia) ?_
            repeat walk_at "s"
            refine c_len_str (by rw [mkS_len, List.length_take]; lia) ?_
            exact ⟨by rw [if_neg h', mkS_len, List.length_take], .refl _⟩
        repeat walk_at "s"
        refine c_append .head (by rw [List.length_map]; exact Nat.le_trans hmkl (by decide)) ?_
        repeat walk_at "s"
        refine ⟨some (.int st), some (.int (i : Nat)), some (.str (mkS w)), some (.int mo), some (.int e), some (.str (mkS bd)), some (.str (mkS gp)), ?_⟩
        rw [htk, hmk, List.append_assoc, natVs, natVs, List.map_append, hst]
        have en2 : (((mkS (tx ++ (bo ++ gp))).length : Nat) : Int) - ((mkS gp).length : Nat) + ((if st % 2 = 1 then 0 else min 1 gp.length : Nat) : Int) = ((tx.length + bo.length + (if st % 2 = 1 then 0 else min 1 gp.length) : Nat) : Int) := by
          rw [mkS_len, mkS_len, List.length_append, List.length_append]; push_cast; lia
        rw [en2]; rfl
    · right
      refine ⟨enum_none (by walk_at "mem") (by simp; exact Nat.le_of_not_lt hlt), ?_⟩
      have hall : (txL ws cs en).take i = txL ws cs en := List.take_of_length_le (by simp [txL]; exact Nat.le_of_not_lt hlt)
      have hall2 : (mkL ws cs en).take i = mkL ws cs en := List.take_of_length_le (by simp [mkL]; lia)
      rw [hall, hall2]
      repeat walk_at "s"
      exact ⟨_, .pick .head (.drop (.drop (.refl _))), q mk⟩
end
end
noncomputable section
noncomputable def fracF : List Int → Int × Int
  | [] => (1, 0)
  | t :: ts => (t * (fracF ts).1 + (fracF ts).2, (fracF ts).1)
noncomputable def eucF : Nat → Int → Int → List Int
  | 0, _, _ => []
  | n + 1, a, b => if b = 0 then [] else a.fdiv b :: eucF n b (a.fmod b)
noncomputable def euc (a b : Int) : List Int := eucF b.natAbs a b
theorem fmod_lt (x : Int) {d : Int} (hd : d ≠ 0) : (x.fmod d).natAbs < d.natAbs := by
  rcases Int.lt_or_gt_of_ne hd with h | h
  · have h1 := Int.mul_fdiv_add_fmod x d
    have e : x.fmod d = -((-x).fmod (-d)) := by rw [Int.neg_fmod_neg, Int.neg_neg]
    have h3 := Int.fmod_nonneg_of_pos (-x) (b := -d) (by exact Int.neg_pos_of_neg h)
    have h4 := Int.fmod_lt_of_pos (-x) (b := -d) (by exact Int.neg_pos_of_neg h)
    omega
  · have h3 := Int.fmod_nonneg_of_pos x h
    have h4 := Int.fmod_lt_of_pos x h
    exact Int.natAbs_lt_natAbs_of_nonneg_of_lt h3 h4
theorem eucF_eq : ∀ {n : Nat} {a b : Int}, b.natAbs ≤ n → ∀ {m : Nat}, b.natAbs ≤ m → eucF n a b = eucF m a b
  | 0, a, b, h, m, _ => by
    have : b = 0 := by lia
    subst this; cases m <;> simp [eucF]
  | n + 1, a, b, h, 0, h2 => by
    have : b = 0 := by lia
    subst this; simp [eucF]
  | n + 1, a, b, h, m + 1, h2 => by
    unfold eucF
    by_cases hb : b = 0
    · rw [if_pos hb, if_pos hb]
    · rw [if_neg hb, if_neg hb]
      have := fmod_lt a hb
      rw [eucF_eq (n := n) (by omega) (m := m) (by omega)]
theorem euc_zero (a : Int) : euc a 0 = [] := rfl
theorem euc_step (a : Int) {b : Int} (hb : b ≠ 0) : euc a b = a.fdiv b :: euc b (a.fmod b) := by
  have h := fmod_lt a hb
  unfold euc
  obtain ⟨n, hn⟩ : ∃ n, b.natAbs = n + 1 := ⟨b.natAbs - 1, by lia⟩
  rw [hn]
  show (if b = 0 then [] else _) = _
  rw [if_neg hb, eucF_eq (n := n) (by omega) (m := (a.fmod b).natAbs) (Nat.le_refl _)]
theorem fmod_half (a : Int) {b : Int} (hb : b ≠ 0) (hr : a.fmod b ≠ 0) : 2 * (b.fmod (a.fmod b)).natAbs < b.natAbs := by
  have h0 := fmod_lt a hb
  have key : ∀ (x y : Int), 0 < y → y < x → 2 * (x.fmod y).natAbs < x.natAbs := fun x y hy hx => by
    have h1 := Int.mul_fdiv_add_fmod x y
    have h3 := Int.fmod_nonneg_of_pos x hy
    have h4 := Int.fmod_lt_of_pos x hy
    have h5 : 1 ≤ x.fdiv y := by
      have : 0 < x.fdiv y := by
        refine Int.lt_of_not_ge fun h => ?_
        have := Int.mul_le_mul_of_nonneg_left h (Int.le_of_lt hy)
        rw [Int.mul_zero] at this; omega
      assumption
    have h6 := Int.mul_le_mul_of_nonneg_left h5 (Int.le_of_lt hy)
    rw [Int.mul_one] at h6; (clear h5 hy h0 hr hb; omega)
  rcases Int.lt_or_gt_of_ne hb with h | h
  · have e : a.fmod b = -((-a).fmod (-b)) := by rw [Int.neg_fmod_neg, Int.neg_neg]
    have h3 := Int.fmod_nonneg_of_pos (-a) (b := -b) (by omega)
    have := key (-b) (-(a.fmod b)) (by (clear key h0 hb; omega)) (by omega)
    rw [Int.neg_fmod_neg, Int.natAbs_neg, Int.natAbs_neg] at this
    exact this
  · have h3 := Int.fmod_nonneg_of_pos a h
    exact key b (a.fmod b) (by exact Std.lt_of_le_of_ne h3 (id (Ne.symm hr))) (by exact Int.fmod_lt_of_pos a h)
theorem euc_len : ∀ (k : Nat) (a b : Int), b.natAbs < 2 ^ k → (euc a b).length ≤ 2 * k
  | 0, a, b, h => by
    have : b = 0 := by lia
    subst this; exact Nat.le_refl _
  | k + 1, a, b, h => by
    by_cases hb : b = 0
    · subst hb; exact Nat.zero_le _
    · rw [euc_step a hb]
      by_cases hr : a.fmod b = 0
      · rw [hr, euc_zero]; simp; exact Nat.le_of_ble_eq_true rfl
      · rw [euc_step b hr]
        have h1 := fmod_half a hb hr
        have := euc_len k (a.fmod b) (b.fmod (a.fmod b)) (by rw [Nat.pow_succ] at h; omega)
        simp only [List.length_cons]; (clear h1 hr hb h; omega)
theorem fracF_lt {T : Nat} : ∀ {l : List Int}, (∀ t ∈ l, t.natAbs < 2 ^ T) → (fracF l).1.natAbs < 2 ^ ((T + 1) * l.length + 1) ∧ (fracF l).2.natAbs < 2 ^ ((T + 1) * l.length + 1)
  | [], _ => by simp [fracF]
  | t :: ts, h => by
    obtain ⟨h1, h2⟩ := fracF_lt (l := ts) fun x hx => h x (.tail _ hx)
    have h0 := h t (.head _)
    have e : (T + 1) * (t :: ts).length + 1 = ((T + 1) * ts.length + 1) + (T + 1) := by rw [List.length_cons, Nat.mul_add]; lia
    rw [e]
    generalize (T + 1) * ts.length + 1 = k at h1 h2
    simp only [fracF]
    have hk : 2 ^ (k + (T + 1)) = 2 ^ k * 2 ^ T + 2 ^ k * 2 ^ T := by rw [← Nat.add_assoc, Nat.pow_succ, Nat.pow_add]; exact Nat.mul_two (2 ^ k * 2 ^ T)
    have hm : (t * (fracF ts).1).natAbs ≤ 2 ^ T * 2 ^ k - 2 ^ k := by
      rw [Int.natAbs_mul]
      have : t.natAbs * (fracF ts).1.natAbs ≤ (2 ^ T - 1) * 2 ^ k := Nat.mul_le_mul (by exact Nat.le_sub_one_of_lt h0) (by exact Nat.le_of_succ_le h1)
      rw [Nat.sub_mul, Nat.one_mul] at this; exact this
    have hp : 2 ^ k ≤ 2 ^ T * 2 ^ k := Nat.le_mul_of_pos_left _ (Nat.two_pow_pos T)
    have := Int.natAbs_add_le (t * (fracF ts).1) (fracF ts).2
    rw [hk, Nat.mul_comm (2 ^ k)]
    constructor <;> omega
section
variable {C : Cfg} {a : Ad} {A : Around} {H H' : AH} {Q : V → AH → Prop} {l : List Env}
theorem sp_divided {x d : Int} (W : W3 C a) (hr : Room A 27) (hfr : A.frames = some l) (hS : Stk l H) (hT : Tabs a H) (hx : x.natAbs < 2 ^ 2999) (hd : d.natAbs < 2 ^ 2999) (q : Q (if d = 0 then .str "" else .tup [.int (x.fdiv d), .int (x.fmod d)]) H) :
    WPC C A (.ref a.divided) [.int x, .int d] Q H := by
  have G := W.G
  obtain ⟨cd, hF⟩ := W.divided
  refine call_okF ok_divided G (fnAt_of_base hF) hr hfr rfl rfl (by walk_at "init") rfl rfl fun L cd A' env hr' hfr' hfL hkd hD FE he => ?_
  have hA := hr'.hd
  have hS' : Stk (env :: l) ((L, .ns ["one", "two", "error"] [some (.int x), some (.int d), none]) :: H) := hS.cons hkd hfL
  have hT' : Tabs a ((L, .ns ["one", "two", "error"] [some (.int x), some (.int d), none]) :: H) := hT.to fun p h => .tail _ h
  refine wps_cons ?_
  by_cases h0 : d = 0
  · subst h0
    rw [if_pos rfl] at q
    refine wp1_Try_str (vals1 := fun e => [some (.int x), some (.int 0), some (.ref e)]) FE G hfr' hfL (by walk_at "mem") (by walk_at "mem") (by walk_at "mem") (by walk_at "mem") hr'.line (fun e => by walk_at "put") (fun e => by walk_at "at") (fun {h m m' e} r hm => ?_) (wr_cons (wr_Return (wr_Call ?_))) ⟨H, .drop (.refl _), q⟩
    · simp only [NsRel] at r ⊢
      obtain ⟨o1, r1, e1, k1, o2, r2, e2, k2, o3, r3, e3, k3, k4⟩ := r
      cases e1; cases e2; cases e3
      refine ⟨_, _, rfl, ?_, _, _, rfl, ?_, _, _, rfl, ?_, k4⟩
      · rw [hm "one" (by decide +kernel)]; exact k1
      · rw [hm "two" (by decide +kernel)]; exact k2
      · intro u hu; cases hu
    · repeat walk_at "s"
      exact sp_dm0 W (hr'.mono (by decide)) hfr' hS' fun H₁ zz y => y
  · rw [if_neg h0] at q
    refine wp1_Try_ok (wps_cons ?_)
    repeat walk_at "s"
    refine sp_dm W hT' (hr'.mono (by decide)) h0 hx hd ?_
    exact ⟨H, .drop (.refl _), q⟩
inductive FrI (ts : List Int) (L tl : Addr) (H₁ : AH) (i : Nat) (H₂ : AH) : Prop
  | mk (x y : Int) (o : Option V) (h : (x, y) = fracF (ts.drop (ts.length - i))) (hi : i ≤ ts.length) (e : H₂ = (L, .ns ["terms", "above", "below", "term"] [some (.ref tl), some (.int x), some (.int y), o]) :: H₁) : FrI ts L tl H₁ i H₂
theorem sp_fraction {tl : Addr} {ts : List Int} (W : W3 C a) (hr : Room A 1) (hl : (tl, AO.list (intVs ts)) ∈ H) (hb : ∀ t ∈ ts, t.natAbs < 2 ^ 100) (hz : ts.length ≤ 100) (q : Q (.tup [.int (fracF ts).1, .int (fracF ts).2]) H) : WPC C A (.ref a.fraction) [.ref tl] Q H := by
  have G := W.G
  obtain ⟨cd, hF⟩ := W.fraction
  refine call_ok ok_fraction G (fnAt_of_base hF) hr rfl rfl (by walk_at "init") rfl rfl fun L cd A' env hr' hD FE he => ?_
  have hA := hr'.hd
  refine wps_cons ?_
  refine wp1_Assign ?_ (hw := by exact swap_const (by decide +kernel))
  repeat walk_at "s"
  refine asg_Tuple hA (wpas_cons ?_)
  repeat walk_at "s"
  refine wpas_cons ?_
  repeat walk_at "s"
  refine wpas_nil ?_
  repeat walk_at "s"
  refine wp1_For (wpi_value ?_)
  repeat walk_at "s"
  refine gs_list (by walk_at "mem") (by decide) (by rw [List.length_map]; exact Nat.le_trans hz (by decide)) ?_
  intro rl
  have er : pySlice (intVs ts) none none (some (-1)) = intVs ts.reverse := by rw [pySlice_rev]; simp
  rw [er]
  repeat walk_at "s"
  refine pi_list hA (.head _) ?_
  refine ⟨fun i H₂ => ∃ H₃, FrI ts L tl H i H₃ ∧ H₂ = (rl, .list (intVs ts.reverse)) :: H₃, ts.length, ⟨_, ⟨1, 0, none, by simp [fracF], Nat.zero_le _, rfl⟩, rfl⟩, ?_⟩
  rintro i H₂ ⟨H₃, ⟨x, y, o, h, hi, rfl⟩, rfl⟩
  by_cases hlt : i < ts.length
  · left
    have hg : ts.reverse[i]? = some ts[ts.length - 1 - i] := by rw [List.getElem?_reverse hlt, List.getElem?_eq_getElem]
    have hd : ts.drop (ts.length - (i + 1)) = ts[ts.length - 1 - i] :: ts.drop (ts.length - i) := by
      rw [List.drop_eq_getElem_cons (by omega)]
      have e1 : ts.length - (i + 1) = ts.length - 1 - i := by lia
      have e2 : ts.length - (i + 1) + 1 = ts.length - i := by exact Eq.symm (Mine.Internal.sub_s hlt)
      rw [e2]; simp only [e1]
    have hB := hb _ (List.getElem_mem (l := ts) (n := ts.length - 1 - i) (by omega))
    have hf := fracF_lt (T := 100) (l := ts.drop (ts.length - i)) fun t h => hb t (List.mem_of_mem_drop h)
    have hlen : (ts.drop (ts.length - i)).length ≤ 100 := by rw [List.length_drop]; lia
    rw [← h] at hf
    generalize ts[ts.length - 1 - i] = t at hg hd hB
    refine ⟨.int t, hlt, listItem_some (.head _) (by rw [List.getElem?_map, hg]; rfl), ?_⟩
    repeat walk_at "s"
    refine wp1_swap2 FE hA (by walk_at "mem") (by walk_at "mem") ?_
    repeat walk_at "s"
    refine op_mul_int (mulOk (k := 100) (l := 20000) hB (Nat.lt_of_lt_of_le hf.1 (Nat.pow_le_pow_right (by decide) (by have := Nat.mul_le_mul_left 101 hlen; lia))) (by decide)) ?_
    repeat walk_at "s"
    refine ⟨_, ⟨t * x + y, x, some (.int t), ?_, hlt, rfl⟩, rfl⟩
    rw [hd, fracF, ← h]
  · right
    have : i = ts.length := by lia
    subst this
    rw [Nat.sub_self, List.drop_zero] at h
    refine ⟨listItem_none (.head _) (by simp), ?_⟩
    repeat walk_at "s"
    refine ⟨H, .drop (.drop (.refl _)), ?_⟩
    rw [← h] at q; exact q
inductive EuI (x0 y0 : Int) (L rl : Addr) (H₁ : AH) (i : Nat) (H₂ : AH) : Prop
  | mk (x y : Int) (pre : List Int) (h : pre ++ euc x y = euc x0 y0) (hi : pre.length = i) (bx : x.natAbs < 2 ^ 8000) (bY : y.natAbs < 2 ^ 8000) (e : H₂ = (rl, .list (intVs pre)) :: (L, .ns ["above", "below", "row"] [some (.int x), some (.int y), some (.ref rl)]) :: H₁) : EuI x0 y0 L rl H₁ i H₂
theorem sp_euclid {x y : Int} (W : W3 C a) (hr : Room A 1) (hx : x.natAbs < 2 ^ 8000) (hy : y.natAbs < 2 ^ 8000) (q : ∀ rl, Q (.ref rl) ((rl, .list (intVs (euc x y))) :: H)) : WPC C A (.ref a.euclid) [.int x, .int y] Q H := by
  have G := W.G
  obtain ⟨cd, hF⟩ := W.euclid
  refine call_ok ok_euclid G (fnAt_of_base hF) hr rfl rfl (by walk_at "init") rfl rfl fun L cd A' env hr' hD FE he => ?_
  have hA := hr'.hd
  have hlen := euc_len 8000 x y hy
  repeat walk_at "s"
  intro rl
  repeat walk_at "s"
  refine wp1_While (EuI x y L rl H) (euc x y).length ⟨x, y, [], rfl, rfl, hx, hy, rfl⟩ ?_
  rintro i H₁ hi ⟨u, v, pre, h, rfl, bu, bv, rfl⟩
  repeat walk_at "s"
  refine ⟨fun ht => ?_, fun ht => ?_⟩
  · have hv : v ≠ 0 := by simpa using ht
    rw [euc_step u hv] at h
    have hpl : pre.length < (euc x y).length := by rw [← h]; simp
    refine ⟨hpl, ?_⟩
    repeat walk_at "s"
    refine wpm_append (.head _) ?_
    repeat walk_at "s"
    refine op_floordiv_int hv (PyProof.noPylong_of_log2 (Nat.lt_of_lt_of_le ((Nat.log2_lt (by exact Int.natAbs_ne_zero.mpr hv)).mpr bv) (by decide))) ?_
    repeat walk_at "s"
    refine c_append .head (by rw [List.length_map]; lia) ?_
    repeat walk_at "s"
    refine wp1_swap2 FE hA (by walk_at "mem") (by walk_at "mem") ?_
    repeat walk_at "s"
    refine op_mod_int hv ?_
    repeat walk_at "s"
    refine ⟨v, u.fmod v, pre ++ [u.fdiv v], by rw [List.append_assoc]; exact h, by simp, bv, Nat.lt_trans (fmod_lt u hv) bv, ?_⟩
    rw [intVs, intVs, List.map_append]; rfl
  · have hv : v = 0 := by simpa using ht
    subst hv
    rw [euc_zero, List.append_nil] at h
    subst h
    repeat walk_at "s"
    exact ⟨_, .pick .head (.drop (.refl _)), q rl⟩
end
end
noncomputable section
noncomputable def endF (ts : List Int) (m : Int) : Int × Int := fracF (ts.dropLast ++ [ts.getLastD 0 + m])
noncomputable def comF (l m : List Int) : Nat := ((List.range (min l.length m.length)).filter fun k => decide (l.take (k + 1) = m.take (k + 1))).length
noncomputable def topF (a b : Int) (e : Int × Int) : Int := a * e.1 + b * e.2
noncomputable def alikeF (a b c d : Int) (ts : List Int) : Nat :=
  if topF c d (endF ts 0) * topF c d (endF ts 1) ≤ 0 then 0 else comF (euc (topF a b (endF ts 0)) (topF c d (endF ts 0))) (euc (topF a b (endF ts 1)) (topF c d (endF ts 1)))
theorem endF_lt {ts : List Int} {m : Int} (hb : ∀ t ∈ ts, t.natAbs < 2 ^ 99) (hz : ts.length ≤ 60) (h0 : ts ≠ []) (hm : m.natAbs ≤ 1) : (endF ts m).1.natAbs < 2 ^ 6061 ∧ (endF ts m).2.natAbs < 2 ^ 6061 := by
  have h := fracF_lt (T := 100) (l := ts.dropLast ++ [ts.getLastD 0 + m]) fun t ht => by
    rcases List.mem_append.mp ht with ht | ht
    · exact Nat.lt_trans (hb t ((List.dropLast_sublist ts).subset ht)) (by decide)
    · rw [List.mem_singleton.mp ht]
      have : ts.getLastD 0 ∈ ts := by rw [List.getLastD_eq_getLast?, List.getLast?_eq_some_getLast h0]; exact List.getLast_mem h0
      have := hb _ this
      have := Int.natAbs_add_le (ts.getLastD 0) m
      lia
  have e : (ts.dropLast ++ [ts.getLastD 0 + m]).length = ts.length := by
    rw [List.length_append, List.length_dropLast, List.length_singleton]
    have := List.length_pos_iff.mpr h0; exact Nat.sub_add_cancel this
  rw [e] at h
  have hp : (2 : Nat) ^ ((100 + 1) * ts.length + 1) ≤ 2 ^ 6061 := Nat.pow_le_pow_right (by decide) (by lia)
  exact ⟨Nat.lt_of_lt_of_le h.1 hp, Nat.lt_of_lt_of_le h.2 hp⟩
theorem topF_lt {a b : Int} {e : Int × Int} (ha : a.natAbs < 2 ^ 100) (hb : b.natAbs < 2 ^ 100) (h : e.1.natAbs < 2 ^ 6061 ∧ e.2.natAbs < 2 ^ 6061) : (topF a b e).natAbs < 2 ^ 8000 := by
  have h1 : (a * e.1).natAbs ≤ 2 ^ 100 * 2 ^ 6061 := by rw [Int.natAbs_mul]; exact Nat.mul_le_mul (Nat.le_of_lt ha) (Nat.le_of_lt h.1)
  have h2 : (b * e.2).natAbs ≤ 2 ^ 100 * 2 ^ 6061 := by rw [Int.natAbs_mul]; exact Nat.mul_le_mul (Nat.le_of_lt hb) (Nat.le_of_lt h.2)
  have h3 := Int.natAbs_add_le (a * e.1) (b * e.2)
  rw [← Nat.pow_add] at h1 h2
  have h4 : (2 : Nat) ^ (100 + 6061) + 2 ^ (100 + 6061) < 2 ^ 8000 := by
    have e1 : (2 : Nat) ^ (100 + 6061) + 2 ^ (100 + 6061) = 2 ^ 6162 := by rw [← Nat.two_mul, ← Nat.pow_succ']
    rw [e1]; exact Nat.pow_lt_pow_right (by decide) (by decide)
  exact Nat.lt_of_le_of_lt (Nat.le_trans h3 (Nat.add_le_add h1 h2)) h4
theorem tup_some {vs : List V} {i : Nat} {x : V} {H : AH} (h : vs[i]? = some x) : tupItem vs i H (some x) := by
  have hlt := (List.getElem?_eq_some_iff.mp h).1
  rw [tupItem, fnItem, if_pos hlt, List.getD_eq_getElem?_getD, h]; rfl
theorem tup_none {vs : List V} {i : Nat} {H : AH} (h : vs.length ≤ i) : tupItem vs i H none := by
  rw [tupItem, fnItem, if_neg (by exact Nat.not_lt.mpr h)]
section
variable {C : Cfg} {a : Ad} {A : Around} {H H' : AH} {Q : V → AH → Prop} {l : List Env}
theorem sp_alike {tl : Addr} {pa pb pc pd : Int} {ts : List Int} (W : W3 C a) (hr : Room A 3) (hl : (tl, AO.list (intVs ts)) ∈ H) (hb : ∀ t ∈ ts, t.natAbs < 2 ^ 99) (hz : ts.length ≤ 60) (h0 : ts ≠ [])
    (ha : pa.natAbs < 2 ^ 100) (hb' : pb.natAbs < 2 ^ 100) (hc : pc.natAbs < 2 ^ 100) (hd : pd.natAbs < 2 ^ 100) (q : Q (.int (alikeF pa pb pc pd ts : Nat)) H) :
    WPC C A (.ref a.alike) [.tup [.int pa, .int pb, .int pc, .int pd], .ref tl] Q H := by
  have G := W.G
  obtain ⟨cd, hF⟩ := W.alike
  refine call_okC ok_alike G (fun s R => hF.keeps R.keep) hr rfl rfl rfl (vals := [some (.tup [.int pa, .int pb, .int pc, .int pd]), none]) rfl (VOk.get (.some .head (.rest rfl))) fun L cs' A' env hcs hr' FE he => ?_
  obtain ⟨k1, cs1, rfl, hcs1⟩ := cells_cons hcs
  obtain ⟨k2, cs2, rfl, hcs2⟩ := cells_cons hcs1
  obtain ⟨k3, k4, k5, k6, k7, rfl⟩ := cells5 hcs2
  refine ⟨_, .other (.other (.other (.other (.other (.other (.param (.tail .head) .nil)))))), ?_⟩
  have hA := hr'.hd
  simp only [List.cons_append, List.nil_append]
  refine wps_cons ?_
  refine wp1_Assign ?_
  repeat walk_at "s"
  refine asg_Tuple hA (wpas_cons ?_)
  repeat walk_at "s"
  refine wpas_cons ?_
  repeat walk_at "s"
  refine wpas_cons ?_
  repeat walk_at "s"
  refine wpas_cons ?_
  repeat walk_at "s"
  refine wpas_nil ?_
  repeat walk_at "s"
  have FE0 := FE
  refine wp1_LC (ln' := ["more"]) (gn' := ["_law_fraction"]) (fs := ["terms"]) (cs := [k7]) FE (by kernel_rfl) (List.forall_mem_cons.mpr ⟨by walk_at "mem", List.forall_mem_nil _⟩) (by walk_at "mem") (by decide +kernel) ?_
  refine wpi_value ?_
  repeat walk_at "s"
  refine pi_tup hA ?_
  intro b cn cenv FE
  replace FE : FEnv cenv cn ["more"] [("terms", k7)] ["_law_fraction"] := FE
  have hlast : (intVs ts)[(-1 + ((intVs ts).length : Int)).toNat]? = some (.int (ts.getLastD 0)) := by
    have hp := List.length_pos_iff.mpr h0
    rw [List.length_map, List.getElem?_map]
    have : (-1 + (ts.length : Int)).toNat = ts.length - 1 := by exact Mine.Internal.last_ix hp
    rw [this, List.getLastD_eq_getLast?, List.getLast?_eq_getElem?, List.getElem?_eq_getElem (by exact Nat.sub_one_lt_of_lt hp)]; rfl
  refine turns_mapL (l := [(0 : Int), 1]) (g := V.int) (f := fun m => .tup [.int (endF ts m).1, .int (endF ts m).2]) FE (by decide) (fun i k o acc h => tup_some (vs := [(0 : Int), 1].map V.int) (by rw [List.getElem?_map, h]; rfl)) (fun o acc => tup_none (by decide)) (fun m hm acc => ?_) fun o => ?_
  · have hm1 : m.natAbs ≤ 1 := by simp only [List.mem_cons, List.not_mem_nil, or_false] at hm; rcases hm with rfl | rfl <;> decide
    repeat walk_at "s"
    refine gs_list (by walk_at "mem") (by decide) (by rw [List.length_map]; lia) ?_
    intro s1
    rw [pySlice_init]
    repeat walk_at "s"
    refine gi_list_neg (by walk_at "mem") (by decide) (by rw [List.length_map]; have := List.length_pos_iff.mpr h0; exact Mine.Internal.neg1 this) hlast (by rw [List.length_map]; lia) ?_
    repeat walk_at "s"
    intro s2
    refine op_add_list (.tail _ (.head _)) (.head _) (by simp; lia) ?_
    intro s3
    repeat walk_at "s"
    have e3 : (intVs ts).dropLast ++ [V.int (ts.getLastD 0 + m)] = intVs (ts.dropLast ++ [ts.getLastD 0 + m]) := by rw [intVs, intVs, List.map_append, List.map_dropLast]; rfl
    rw [e3]
    have hlen : (ts.dropLast ++ [ts.getLastD 0 + m]).length ≤ 100 := by simp; lia
    refine sp_fraction W (hr'.mono (by decide)) (.head _) (fun t ht => ?_) hlen ?_
    · rcases List.mem_append.mp ht with ht | ht
      · exact Nat.lt_trans (hb t ((List.dropLast_sublist ts).subset ht)) (by decide)
      · rw [List.mem_singleton.mp ht]
        have h1 : ts.getLastD 0 ∈ ts := by rw [List.getLastD_eq_getLast?, List.getLast?_eq_some_getLast h0]; exact List.getLast_mem h0
        have h2 := hb _ h1
        have h3 := Int.natAbs_add_le (ts.getLastD 0) m
        lia
    · exact ⟨rfl, .drop (.drop (.drop (.refl _)))⟩
  · have FE := FE0
    have b0 := endF_lt (m := 0) hb hz h0 (by decide)
    have b1 := endF_lt (m := 1) hb hz h0 (by decide)
    have c0 := topF_lt hc hd b0
    have c1 := topF_lt hc hd b1
    have a0 := topF_lt ha hb' b0
    have a1 := topF_lt ha hb' b1
    rw [alikeF] at q
    simp only [List.map_cons, List.map_nil]
    have hmul : ∀ {x y : Int}, x.natAbs < 2 ^ 100 → y.natAbs < 2 ^ 6061 → IntMulOk x y := fun h1 h2 => mulOk h1 h2 (by decide)
    generalize endF ts 0 = e0 at *
    generalize endF ts 1 = e1 at *
    repeat walk_at "s"
    refine ⟨_, _, .head, ?_⟩
    repeat walk_at "s"
    refine gi_list (by walk_at "mem") (by decide) rfl (Nat.le_of_ble_eq_true rfl) ?_
    repeat walk_at "s"
    refine gi_tup (by decide) rfl (Nat.le_of_ble_eq_true rfl) ?_
    refine op_mul_int (hmul hc b0.1) ?_
    repeat walk_at "s"
    refine gi_list (by walk_at "mem") (by decide) rfl (Nat.le_of_ble_eq_true rfl) ?_
    repeat walk_at "s"
    refine gi_tup (by decide) rfl (Nat.le_of_ble_eq_true rfl) ?_
    refine op_mul_int (hmul hd b0.2) ?_
    repeat walk_at "s"
    refine gi_list (by walk_at "mem") (by decide) rfl (Nat.le_of_ble_eq_true rfl) ?_
    repeat walk_at "s"
    refine gi_tup (by decide) rfl (Nat.le_of_ble_eq_true rfl) ?_
    refine op_mul_int (hmul hc b1.1) ?_
    repeat walk_at "s"
    refine gi_list (by walk_at "mem") (by decide) rfl (Nat.le_of_ble_eq_true rfl) ?_
    repeat walk_at "s"
    refine gi_tup (by decide) rfl (Nat.le_of_ble_eq_true rfl) ?_
    refine op_mul_int (hmul hd b1.2) ?_
    repeat walk_at "s"
    refine op_mul_int (mulOk (k := 8000) (l := 8000) c0 c1 (by decide)) ?_
    repeat walk_at "s"
    have ec0 : pc * e0.1 + pd * e0.2 = topF pc pd e0 := rfl
    have ec1 : pc * e1.1 + pd * e1.2 = topF pc pd e1 := rfl
    rw [ec0, ec1]
    refine ⟨fun h => ?_, fun h => ?_⟩
    · have h' := of_decide_eq_true h
      rw [if_pos h'] at q
      repeat walk_at "s"
      exact ⟨H, by walk_at "sub", q⟩
    have h' := of_decide_eq_false h
    rw [if_neg h'] at q
    refine wps_nil ?_
    walk_at "s"
    refine wps_cons ?_
    refine wp1_Assign ?_
    refine wp_LC (ln' := ["above", "below"]) (gn' := ["_law_euclid"]) (fs := ["a", "b", "c", "d"]) (cs := [k6, k5, k4, k3]) FE (by kernel_rfl) (List.forall_mem_cons.mpr ⟨by walk_at "mem", List.forall_mem_cons.mpr ⟨by walk_at "mem", List.forall_mem_cons.mpr ⟨by walk_at "mem", List.forall_mem_cons.mpr ⟨by walk_at "mem", List.forall_mem_nil _⟩⟩⟩⟩) ?_
    refine wpi_value ?_
    repeat walk_at "s"
    refine pi_list hA (by walk_at "mem") ?_
    intro b2 c2 cenv FE
    replace FE : FEnv cenv c2 ["above", "below"] [("d", k3), ("c", k4), ("b", k5), ("a", k6)] ["_law_euclid"] := FE
    refine turns_new2 (xs := [e0, e1].map fun e => (.int e.1, .int e.2)) (vss := [e0, e1].map fun e => intVs (euc (topF pa pb e) (topF pc pd e))) FE hA rfl (Nat.le_of_ble_eq_true rfl) (fun i x os acc P hP h => ?_) (fun os acc P hP => listItem_none (.tail _ (.tail _ (hP _ (.head _)))) (Nat.le_refl 2)) (fun i x vs acc P hP hx hv => ?_) fun os rs hrs => ?_
    · simp only [List.getElem?_map, Option.map_eq_some_iff] at h
      obtain ⟨e, he, rfl⟩ := h
      exact listItem_some (xs := [e0, e1].map fun e => .tup [.int e.1, .int e.2]) (.tail _ (.tail _ (hP _ (.head _)))) (by rw [List.getElem?_map, he]; rfl)
    · simp only [List.getElem?_map, Option.map_eq_some_iff] at hx hv
      obtain ⟨e, he, rfl⟩ := hx
      rw [he] at hv
      simp only [Option.some.injEq, exists_eq_left'] at hv
      subst hv
      have hbe : (e.1.natAbs < 2 ^ 6061 ∧ e.2.natAbs < 2 ^ 6061) ∧ (topF pa pb e).natAbs < 2 ^ 8000 ∧ (topF pc pd e).natAbs < 2 ^ 8000 := by
        have := List.mem_of_getElem? he
        simp only [List.mem_cons, List.not_mem_nil, or_false] at this
        rcases this with rfl | rfl
        · exact ⟨b0, a0, c0⟩
        · exact ⟨b1, a1, c1⟩
      have m3 := hP (k3, .cell (some (.int pd))) (by walk_at "mem")
      have m4 := hP (k4, .cell (some (.int pc))) (by walk_at "mem")
      have m5 := hP (k5, .cell (some (.int pb))) (by walk_at "mem")
      have m6 := hP (k6, .cell (some (.int pa))) (by walk_at "mem")
      dsimp only
      repeat walk_at "s"
      refine op_mul_int (hmul ha hbe.1.1) ?_
      repeat walk_at "s"
      refine op_mul_int (hmul hb' hbe.1.2) ?_
      repeat walk_at "s"
      refine op_mul_int (hmul hc hbe.1.1) ?_
      repeat walk_at "s"
      refine op_mul_int (hmul hd hbe.1.2) ?_
      repeat walk_at "s"
      refine sp_euclid W (hr'.mono (by decide)) hbe.2.1 hbe.2.2 ?_
      intro r
      exact ⟨r, rfl, .pick (.tail .head) (.pick (.tail .head) (.refl _))⟩
    · obtain ⟨r1, r2, rfl⟩ : ∃ r1 r2, rs = [r1, r2] := by
        match rs, hrs with
        | [r1, r2], _ => exact ⟨r1, r2, rfl⟩
      have FE := FE0
      refine ⟨_, _, .head, ?_⟩
      simp only [nls, List.map_cons, List.map_nil, List.zip_cons_cons, List.zip_nil_right, List.reverse_cons, List.reverse_nil, List.nil_append, List.cons_append]
      have l0 := euc_len 8000 (topF pa pb e0) (topF pc pd e0) c0
      have l1 := euc_len 8000 (topF pa pb e1) (topF pc pd e1) c1
      rw [comF] at q
      clear c0 c1 a0 a1 b0 b1 hmul h h' ec0 ec1
      generalize euc (topF pa pb e0) (topF pc pd e0) = x0 at *
      generalize euc (topF pa pb e1) (topF pc pd e1) = x1 at *
      refine asg_TupleL hA (.head _) (wpas_cons ?_)
      repeat walk_at "s"
      refine wpas_cons ?_
      repeat walk_at "s"
      refine wpas_nil ?_
      repeat walk_at "s"
      refine wp_LC (ln' := ["k"]) (gn' := []) (fs := ["one", "two"]) (cs := [k2, k1]) FE (by kernel_rfl) (List.forall_mem_cons.mpr ⟨by walk_at "mem", List.forall_mem_cons.mpr ⟨by walk_at "mem", List.forall_mem_nil _⟩⟩) ?_
      refine wpi_value ?_
      repeat walk_at "s"
      refine c_len_list (vs := intVs x0) (by walk_at "mem") (by rw [List.length_map]; lia) ?_
      repeat walk_at "s"
      refine c_len_list (vs := intVs x1) (by walk_at "mem") (by rw [List.length_map]; lia) ?_
      repeat walk_at "s"
      refine c_min2 hA ?_
      repeat walk_at "s"
      refine c_range1 ?_
      intro rr t u v
      repeat walk_at "s"
      have emin : min ((intVs x0).length : Int) ((intVs x1).length : Int) = ((min x0.length x1.length : Nat) : Int) := by rw [List.length_map, List.length_map]; omega
      rw [emin]
      have hmz : min x0.length x1.length ≤ 20000 := by omega
      generalize min x0.length x1.length = n at *
      refine pi_range (a := 0) (b := (n : Int)) hA (by decide) (by lia) (.head _) ?_
      intro b3 c3 cenv FE
      replace FE : FEnv cenv c3 ["k"] [("two", k1), ("one", k2)] [] := FE
      refine turns_filt (n := n) (p := fun k => decide (x0.take (k + 1) = x1.take (k + 1))) FE (by lia) (fun i o acc h => range_item (p := n) (by simp [h])) (fun o acc => range_none (by simp)) (fun i acc h => ?_) (fun i acc h => ?_) fun o => ?_
      · repeat walk_at "s"
        have es : ∀ l : List Int, pySlice (intVs l) none (some (((i : Nat) : Int) + 1)) none = intVs (l.take (i + 1)) := fun l => by
          have e1 : ((i : Nat) : Int) + 1 = ((i + 1 : Nat) : Int) := by push_cast; rfl
          rw [e1, pySlice_upto, intVs, intVs, List.map_take]
        refine gs_list (vs := intVs x0) (by walk_at "mem") (by decide) (by rw [List.length_map]; lia) ?_
        intro s1
        repeat walk_at "s"
        refine gs_list (vs := intVs x1) (by walk_at "mem") (by decide) (by rw [List.length_map]; lia) ?_
        intro s2
        rw [es, es]
        refine op_eq_data (dr_ints (.tail _ (.head _))) (dr_ints (.head _)) (dok_ints (n := 0).shaped (by decide)) (dok_ints (n := 0).shaped (by decide)) hr'.line ?_
        repeat walk_at "s"
        exact ⟨eqv_ints _ _, .drop (.drop (.refl _))⟩
      · repeat walk_at "s"
        exact ⟨rfl, .refl _⟩
      · have FE := FE0
        refine ⟨_, _, .head, ?_⟩
        repeat walk_at "s"
        refine c_len_list (.head _) (by rw [List.length_map]; exact Nat.le_trans (List.length_filter_le _ _) (by rw [List.length_range]; lia)) ?_
        rw [List.length_map]
        repeat walk_at "s"
        exact ⟨H, by walk_at "sub", q⟩
end
end
noncomputable section
noncomputable abbrev Vc := Int × Int
noncomputable def stV (t : Int) (x : Vc) : Vc := (x.2, x.1 - t * x.2)
noncomputable def cb (α β : Int) (x y : Vc) : Vc := (α * x.1 + β * y.1, α * x.2 + β * y.2)
noncomputable def eu (x : Vc) : List Int := euc x.1 x.2
noncomputable def Qt (t x d : Int) : Prop := (0 < d ∧ t * d ≤ x ∧ x < t * d + d) ∨ (d < 0 ∧ x ≤ t * d ∧ t * d + d < x)
theorem qt_of {x d : Int} (hd : d ≠ 0) : Qt (x.fdiv d) x d := by
  have h1 := Int.mul_fdiv_add_fmod x d
  rw [Int.mul_comm] at h1
  rcases Int.lt_or_gt_of_ne hd with h | h
  · right
    have e : x.fmod d = -((-x).fmod (-d)) := by rw [Int.neg_fmod_neg, Int.neg_neg]
    have h3 := Int.fmod_nonneg_of_pos (-x) (b := -d) (by exact Int.neg_pos_of_neg h)
    have h4 := Int.fmod_lt_of_pos (-x) (b := -d) (by exact Int.neg_pos_of_neg h)
    exact ⟨h, by omega, by omega⟩
  · left
    have h3 := Int.fmod_nonneg_of_pos x h
    have h4 := Int.fmod_lt_of_pos x h
    exact ⟨h, by omega, by omega⟩
theorem qt_uniq {t u x d : Int} (h1 : Qt t x d) (h2 : Qt u x d) : t = u := by
  have key : ∀ {t u d x : Int}, 0 < d → t * d ≤ x → x < u * d + d → t ≤ u := fun {t u d x} hd h1 h2 => by
    refine Int.not_lt.mp fun h => ?_
    have h3 : (u + 1) * d ≤ t * d := Int.mul_le_mul_of_nonneg_right (by assumption) (by exact Int.le_of_lt hd)
    rw [Int.add_mul, Int.one_mul] at h3; omega
  have key2 : ∀ {t u d x : Int}, d < 0 → x ≤ t * d → u * d + d < x → t ≤ u := fun {t u d x} hd h1 h2 => by
    refine key (d := -d) (x := -x) (by exact Int.neg_pos_of_neg hd) ?_ ?_
    · rw [Int.mul_neg]; exact Int.neg_le_neg h1
    · rw [Int.mul_neg]; lia
  rcases h1 with ⟨a, b, c⟩ | ⟨a, b, c⟩ <;> rcases h2 with ⟨a', b', c'⟩ | ⟨a', b', c'⟩
  · exact Int.le_antisymm (key a b c') (key a b' c)
  · lia
  · lia
  · exact Int.le_antisymm (key2 a b c') (key2 a b' c)
theorem fdiv_of {t x d : Int} (h : Qt t x d) : x.fdiv d = t := by
  have hd : d ≠ 0 := by rcases h with h | h <;> omega
  exact qt_uniq (qt_of hd) h
noncomputable def Tell (t : Int) (x y : Vc) : Prop := 0 < x.2 * y.2 ∧ Qt t x.1 x.2 ∧ Qt t y.1 y.2
theorem pos_cases {x y : Int} (h : 0 < x * y) : (0 < x ∧ 0 < y) ∨ (x < 0 ∧ y < 0) := by
  rcases Int.lt_trichotomy x 0 with hx | hx | hx
  · right
    refine ⟨hx, Int.not_le.mp fun hy => ?_⟩
    have := Int.mul_le_mul_of_nonneg_right (Int.le_of_lt hx) hy
    rw [Int.zero_mul] at this; lia
  · subst hx; simp at h
  · left
    refine ⟨hx, Int.not_le.mp fun hy => ?_⟩
    have := Int.mul_le_mul_of_nonneg_left hy (Int.le_of_lt hx)
    rw [Int.mul_zero] at this; (clear hy hx; lia)
noncomputable def Cb (α β : Int) : Prop := 0 ≤ α ∧ 0 ≤ β ∧ 0 < α + β
theorem comb_pos {α β x y : Int} (h : Cb α β) (hx : 0 < x) (hy : 0 < y) : 0 < α * x + β * y := by
  obtain ⟨h1, h2, h3⟩ := h
  have a := Int.mul_nonneg h1 (Int.le_of_lt hx)
  have b := Int.mul_nonneg h2 (Int.le_of_lt hy)
  by_cases h4 : 0 < α
  · have := Int.mul_pos h4 hx; exact Int.add_pos_of_pos_of_nonneg this b
  · have := Int.mul_pos (show 0 < β by lia) hy; exact Int.add_pos_of_nonneg_of_pos a this
theorem comb_nonneg {α β x y : Int} (h : Cb α β) (hx : 0 ≤ x) (hy : 0 ≤ y) : 0 ≤ α * x + β * y :=
  Int.add_nonneg (Int.mul_nonneg h.1 hx) (Int.mul_nonneg h.2.1 hy)
theorem qt_comb {t α β : Int} {x y : Vc} (h : Cb α β) (hs : (0 < x.2 ∧ 0 < y.2) ∨ (x.2 < 0 ∧ y.2 < 0)) (hx : Qt t x.1 x.2) (hy : Qt t y.1 y.2) : Qt t (cb α β x y).1 (cb α β x y).2 := by
  obtain ⟨x1, x2⟩ := x
  obtain ⟨y1, y2⟩ := y
  have e : (α * x1 + β * y1) - t * (α * x2 + β * y2) = α * (x1 - t * x2) + β * (y1 - t * y2) := by grind
  have e2 : α * x2 + β * y2 - ((α * x1 + β * y1) - t * (α * x2 + β * y2)) = α * (x2 - (x1 - t * x2)) + β * (y2 - (y1 - t * y2)) := by grind
  have n1 : ∀ z w : Int, α * (-z) + β * (-w) = -(α * z + β * w) := by intro z w; grind
  simp only [cb]
  dsimp only at hs hx hy
  rcases hs with ⟨a, b⟩ | ⟨a, b⟩
  · rcases hx with ⟨_, c, d⟩ | ⟨c, _⟩
    · rcases hy with ⟨_, c', d'⟩ | ⟨c', _⟩
      · left
        have p1 := comb_pos h a b
        have p2 := comb_nonneg h (x := x1 - t * x2) (y := y1 - t * y2) (by exact Int.sub_nonneg_of_le c) (by exact Int.sub_nonneg_of_le c')
        have p3 := comb_pos h (x := x2 - (x1 - t * x2)) (y := y2 - (y1 - t * y2)) (by lia) (by lia)
        exact ⟨p1, by lia, by lia⟩
      · lia
    · (clear right b n1 e2 e hy h; lia)
  · rcases hx with ⟨c, _⟩ | ⟨_, c, d⟩
    · omega
    · rcases hy with ⟨c', _⟩ | ⟨_, c', d'⟩
      · lia
      · right
        have p1 := comb_pos h (x := -x2) (y := -y2) (by lia) (by lia)
        have p2 := comb_nonneg h (x := -(x1 - t * x2)) (y := -(y1 - t * y2)) (by omega) (by omega)
        have p3 := comb_pos h (x := -(x2 - (x1 - t * x2))) (y := -(y2 - (y1 - t * y2))) (by omega) (by omega)
        rw [n1] at p1 p2 p3
        exact ⟨by omega, by omega, by omega⟩
theorem sign_comb {α β α' β' : Int} {x y : Vc} (h : Cb α β) (h' : Cb α' β') (hs : 0 < x.2 * y.2) : 0 < (cb α β x y).2 * (cb α' β' x y).2 := by
  have n1 : ∀ (α β z w : Int), α * (-z) + β * (-w) = -(α * z + β * w) := by intro α β z w; grind
  rcases pos_cases hs with ⟨a, b⟩ | ⟨a, b⟩
  · exact Int.mul_pos (comb_pos h a b) (comb_pos h' a b)
  · have p1 := comb_pos h (x := -x.2) (y := -y.2) (by exact Int.neg_pos_of_neg a) (by exact Int.neg_pos_of_neg b)
    have p2 := comb_pos h' (x := -x.2) (y := -y.2) (by exact Int.neg_pos_of_neg a) (by exact Int.neg_pos_of_neg b)
    rw [n1] at p1 p2
    exact Int.mul_pos_of_neg_of_neg (show α * x.2 + β * y.2 < 0 by exact Int.neg_pos.mp p1) (show α' * x.2 + β' * y.2 < 0 by exact Int.neg_pos.mp p2)
theorem Tell.comb {t α β α' β' : Int} {x y : Vc} (T : Tell t x y) (h : Cb α β) (h' : Cb α' β') : Tell t (cb α β x y) (cb α' β' x y) :=
  ⟨sign_comb h h' T.1, qt_comb h (pos_cases T.1) T.2.1 T.2.2, qt_comb h' (pos_cases T.1) T.2.1 T.2.2⟩
theorem stV_cb (t α β : Int) (x y : Vc) : stV t (cb α β x y) = cb α β (stV t x) (stV t y) := by
  simp only [stV, cb]
  refine Prod.ext rfl ?_
  show _ - _ = _ + _
  grind
inductive St2 : List Int → Vc → Vc → Vc → Vc → Prop
  | nil {x y : Vc} : St2 [] x y x y
  | cons {t : Int} {l : List Int} {x y u w : Vc} (h : Tell t x y) (r : St2 l (stV t x) (stV t y) u w) : St2 (t :: l) x y u w
theorem St2.comb {l : List Int} {x y u w : Vc} (r : St2 l x y u w) {α β α' β' : Int} (h : Cb α β) (h' : Cb α' β') : St2 l (cb α β x y) (cb α' β' x y) (cb α β u w) (cb α' β' u w) := by
  induction r with
  | nil => exact .nil
  | cons T r ih =>
    refine .cons (T.comb h h') ?_
    rw [stV_cb, stV_cb]; exact ih
theorem St2.app {l m : List Int} {x y u w u' w' : Vc} (r : St2 l x y u w) (r' : St2 m u w u' w') : St2 (l ++ m) x y u' w' := by
  induction r with
  | nil => exact r'
  | cons T r ih => exact .cons T (ih r')
theorem eu_step {t : Int} {x : Vc} (h : Qt t x.1 x.2) : eu x = t :: eu (stV t x) := by
  have hd : x.2 ≠ 0 := by rcases h with h | h <;> omega
  have e := fdiv_of h
  have h1 := Int.mul_fdiv_add_fmod x.1 x.2
  unfold eu
  rw [euc_step _ hd, e]
  rw [e, Int.mul_comm] at h1
  show _ :: euc x.2 _ = _ :: euc x.2 (x.1 - t * x.2)
  rw [show x.1.fmod x.2 = x.1 - t * x.2 by exact Eq.symm ((fun {b a c} => Int.sub_eq_iff_eq_add'.mpr) (id (Eq.symm h1)))]
theorem St2.eu {l : List Int} {x y u w : Vc} (r : St2 l x y u w) : eu x = l ++ eu u ∧ eu y = l ++ eu w := by
  induction r with
  | nil => exact ⟨rfl, rfl⟩
  | cons T r ih => exact ⟨by rw [eu_step T.2.1, ih.1]; rfl, by rw [eu_step T.2.2, ih.2]; rfl⟩
theorem St2.sign {l : List Int} {x y u w : Vc} (r : St2 l x y u w) (h : l ≠ []) : 0 < x.2 * y.2 ∧ 0 ≤ u.2 * w.2 := by
  have key : ∀ {t : Int} {x y : Vc}, Tell t x y → 0 ≤ (stV t x).2 * (stV t y).2 := fun {t x y} T => by
    simp only [stV]
    rcases T.2.1 with ⟨a, b, c⟩ | ⟨a, b, c⟩ <;> rcases T.2.2 with ⟨a', b', c'⟩ | ⟨a', b', c'⟩
    · exact Int.mul_nonneg (by exact Int.sub_nonneg_of_le b) (by exact Int.sub_nonneg_of_le b')
    · rcases pos_cases T.1 with h | h <;> lia
    · rcases pos_cases T.1 with h | h <;> lia
    · exact Int.mul_nonneg_of_nonpos_of_nonpos (by exact Int.sub_nonpos_of_le b) (by exact Int.sub_nonpos_of_le b')
  cases r with
  | nil => exact absurd rfl h
  | cons T r =>
    refine ⟨T.1, ?_⟩
    have k := key T
    clear h T
    revert k r
    generalize stV _ x = a
    generalize stV _ y = b
    intro r k
    induction r with
    | nil => exact k
    | cons T r ih => exact ih (key T)
noncomputable def Lt (B : Nat) (x : Vc) : Prop := x.1.natAbs < B ∧ x.2.natAbs < B
theorem stV_lt {B : Nat} {t : Int} {x : Vc} (h : Qt t x.1 x.2) (b : Lt B x) : Lt B (stV t x) := by
  refine ⟨b.2, ?_⟩
  have := b.2
  simp only [stV]
  rcases h with h | h <;> omega
theorem St2.lt {B : Nat} {l : List Int} {x y u w : Vc} (r : St2 l x y u w) (hx : Lt B x) (hy : Lt B y) : Lt B u ∧ Lt B w := by
  induction r with
  | nil => exact ⟨hx, hy⟩
  | cons T r ih => exact ih (stV_lt T.2.1 hx) (stV_lt T.2.2 hy)
theorem settle_none {p q r s : Int} (h : settleF p q r s = none) : r = 0 ∨ r + s = 0 ∨ p.fdiv r ≠ (p + q).fdiv (r + s) ∨ r * (r + s) < 0 := by
  unfold settleF at h
  split at h
  · exact .inl (by assumption)
  · split at h
    · exact .inr (.inl (by assumption))
    · split at h
      · rename_i h3; rcases h3 with h3 | h3
        · exact .inr (.inr (.inl h3))
        · exact .inr (.inr (.inr h3))
      · cases h
theorem settle_some {p q r s t v w : Int} (h : settleF p q r s = some (t, v, w)) : Tell t (p, r) (p + q, r + s) ∧ (r, v) = stV t (p, r) ∧ (r + s, v + w) = stV t (p + q, r + s) := by
  unfold settleF at h
  split at h
  · cases h
  · rename_i h1
    split at h
    · cases h
    · rename_i h2
      split at h
      · cases h
      · rename_i h3
        simp only [Option.some.injEq, Prod.mk.injEq] at h
        obtain ⟨e1, e2, e3⟩ := h
        have h4 : p.fdiv r = (p + q).fdiv (r + s) := Decidable.not_not.mp fun h => h3 (.inl h)
        have h5 : ¬ r * (r + s) < 0 := fun h => h3 (.inr h)
        have h6 : r * (r + s) ≠ 0 := Int.mul_ne_zero h1 h2
        have q1 := qt_of (x := p) h1
        have q2 := qt_of (x := p + q) h2
        rw [← h4] at q2
        rw [e1] at q1 q2
        have m1 := Int.mul_fdiv_add_fmod p r
        have m2 := Int.mul_fdiv_add_fmod (p + q) (r + s)
        rw [← h4] at m2
        rw [e1, Int.mul_comm] at m1 m2
        refine ⟨⟨by show 0 < r * (r + s); omega, q1, q2⟩, Prod.ext rfl ?_, Prod.ext rfl ?_⟩
        · show v = p - t * r; lia
        · show v + w = (p + q) - t * (r + s); (clear q2 q1 h6 h5 h4 e1 h3 h2 h1; omega)
end
noncomputable section
theorem eu_zero {x : Int} : eu (x, 0) = [] := rfl
theorem comF_nl (y : List Int) : comF [] y = 0 := by simp [comF]
theorem comF_nr (x : List Int) : comF x [] = 0 := by simp [comF]
theorem comF_ne {a b : Int} (h : a ≠ b) (x y : List Int) : comF (a :: x) (b :: y) = 0 := by
  simp [comF, h]
theorem comF_cons (a : Int) (x y : List Int) : comF (a :: x) (a :: y) = comF x y + 1 := by
  have e : min (a :: x).length (a :: y).length = min x.length y.length + 1 := by simp only [List.length_cons]; exact Nat.add_min_add_right x.length y.length 1
  unfold comF
  rw [e, List.range_succ_eq_map, List.filter_cons]
  simp only [List.take_succ_cons, List.take_zero, decide_true, if_true, List.length_cons]
  rw [List.filter_map, List.length_map]
  congr 2
  refine List.filter_congr fun k hk => ?_
  simp
theorem comF_app : ∀ (l x y : List Int), comF (l ++ x) (l ++ y) = l.length + comF x y
  | [], x, y => by simp
  | a :: l, x, y => by
    rw [List.cons_append, List.cons_append, comF_cons, comF_app l, List.length_cons]; exact Nat.add_right_comm l.length (Mine.Internal.comF x y) 1
noncomputable def FV (a b c d : Int) (x : Vc) : Vc := (topF a b x, topF c d x)
theorem FV_cb (a b c d α β : Int) (x y : Vc) : FV a b c d (cb α β x y) = cb α β (FV a b c d x) (FV a b c d y) := by
  simp only [FV, topF, cb]
  refine Prod.ext ?_ ?_
  · show _ = _; dsimp only; grind
  · show _ = _; dsimp only; grind
noncomputable def GV : List Int → Vc → Vc
  | [], x => x
  | t :: ts, x => (t * (GV ts x).1 + (GV ts x).2, (GV ts x).1)
theorem GV_frac : ∀ l : List Int, fracF l = GV l (1, 0)
  | [] => rfl
  | t :: ts => by rw [fracF, GV, GV_frac ts]
theorem GV_cb (α β : Int) (x y : Vc) : ∀ l : List Int, GV l (cb α β x y) = cb α β (GV l x) (GV l y)
  | [] => rfl
  | t :: ts => by
    simp only [GV, GV_cb α β x y ts]
    simp only [cb]
    refine Prod.ext ?_ rfl
    dsimp only; grind
theorem GV_snoc (i : Int) (x : Vc) : ∀ l : List Int, GV (l ++ [i]) x = GV l (i * x.1 + x.2, x.1)
  | [] => rfl
  | t :: ts => by simp only [List.cons_append, GV, GV_snoc i x ts]
theorem endF_snoc1 (l : List Int) (j m : Int) : endF (l ++ [j]) m = GV l (j + m, 1) := by
  unfold endF
  rw [List.dropLast_concat, List.getLastD_concat, GV_frac, GV_snoc]; simp
theorem endF_one (i m : Int) : endF [i] m = (i + m, 1) := by
  have := endF_snoc1 [] i m; simpa [GV] using this
theorem endF_frac {l : List Int} (h : l ≠ []) : endF l 0 = fracF l := by
  unfold endF
  rw [Int.add_zero, List.getLastD_eq_getLast?, List.getLast?_eq_some_getLast h]
  show fracF (l.dropLast ++ [l.getLast h]) = _
  rw [List.dropLast_concat_getLast]
theorem endF_next {l : List Int} (h : l ≠ []) (i m : Int) : endF (l ++ [i]) m = cb (i + m - 1) 1 (endF l 0) (endF l 1) := by
  obtain ⟨l', j, rfl⟩ : ∃ l' j, l = l' ++ [j] := ⟨l.dropLast, l.getLast h, (List.dropLast_concat_getLast h).symm⟩
  rw [endF_snoc1, endF_snoc1, endF_snoc1, ← GV_cb, GV_snoc]
  congr 1
  simp only [cb]
  refine Prod.ext ?_ ?_ <;> dsimp only <;> grind
theorem cb_cb (α β a1 b1 a2 b2 : Int) (x y : Vc) : cb α β (cb a1 b1 x y) (cb a2 b2 x y) = cb (α * a1 + β * a2) (α * b1 + β * b2) x y := by
  simp only [cb]
  refine Prod.ext ?_ ?_ <;> dsimp only <;> grind
theorem frac_cone : ∀ (ts l : List Int), l ≠ [] → (∀ t ∈ ts, 1 ≤ t) → ∃ α β, Cb α β ∧ fracF (l ++ ts) = cb α β (endF l 0) (endF l 1)
  | [], l, h, _ => ⟨1, 0, ⟨by decide, by decide, by decide⟩, by rw [List.append_nil, ← endF_frac h]; simp [cb]⟩
  | i :: ts, l, h, hp => by
    obtain ⟨α, β, hc, e⟩ := frac_cone ts (l ++ [i]) (by simp) fun t ht => hp t (.tail _ ht)
    have hi := hp i (.head _)
    rw [List.append_assoc, List.singleton_append] at e
    rw [e, endF_next h, endF_next h, cb_cb]
    obtain ⟨h1, h2, h3⟩ := hc
    have p1 := Int.mul_nonneg h1 (show 0 ≤ i + 0 - 1 by lia)
    have p2 := Int.mul_nonneg h2 (show 0 ≤ i + 1 - 1 by lia)
    exact ⟨_, _, ⟨by exact Int.add_nonneg p1 p2, by lia, by lia⟩, rfl⟩
noncomputable def cntF (a b c d : Int) (L : List Int) : Nat → Nat
  | 0 => 0
  | k + 1 => alikeF a b c d (L.take (k + 1))
theorem lt_diff {B : Nat} {p q : Int} (h1 : p.natAbs < B) (h2 : (p + q).natAbs < B) : q.natAbs < 2 * B := by omega
theorem pow190 : 2 * 2 ^ 190 < 2 ^ 200 := by decide
theorem bd_of {σ : Type} {m : Mc σ} (h1 : Lt (2 ^ 190) (m.p, m.r)) (h2 : Lt (2 ^ 190) (m.p + m.q, m.r + m.s)) (h3 : m.ws.length ≤ 10000) (h4 : m.ak.length ≤ 10000) (h5 : m.hd.length ≤ 10000) : Bd m :=
  ⟨Nat.lt_trans h1.1 (by decide), Nat.lt_trans (lt_diff h1.1 h2.1) pow190, Nat.lt_trans h1.2 (by decide), Nat.lt_trans (lt_diff h1.2 h2.2) pow190, h3, h4, h5⟩
theorem set_run {σ : Type} : ∀ (n : Nat) (m : Mc σ), m.r.natAbs ≤ n → Lt (2 ^ 190) (m.p, m.r) → Lt (2 ^ 190) (m.p + m.q, m.r + m.s) → m.ws.length + (eu (m.p, m.r)).length ≤ 10000 → m.ak.length ≤ 10000 → m.hd.length ≤ 10000 →
    ∃ k l p q r s, SetN k m { m with p := p, q := q, r := r, s := s, t := m.t + l.length, ws := m.ws ++ l } ∧ St2 l (m.p, m.r) (m.p + m.q, m.r + m.s) (p, r) (p + q, r + s) ∧ settleF p q r s = none
  | n, m, hn, h1, h2, h3, h4, h5 => by
    cases hs : settleF m.p m.q m.r m.s with
    | none =>
      refine ⟨0, [], m.p, m.q, m.r, m.s, ?_, .nil, hs⟩
      have e : ({ m with p := m.p, q := m.q, r := m.r, s := m.s, t := m.t + ([] : List Int).length, ws := m.ws ++ [] } : Mc σ) = m := by cases m; simp
      rw [e]
      exact .stop (bd_of h1 h2 (by exact Nat.le_of_add_right_le h3) h4 h5) hs
    | some x =>
      obtain ⟨t, v, w⟩ := x
      obtain ⟨T, e1, e2⟩ := settle_some hs
      have hv : v.natAbs < m.r.natAbs := by
        have e := congrArg Prod.snd e1
        simp only [stV] at e
        rcases T.2.1 with h | h <;> dsimp only at h <;> omega
      match n, hn with
      | 0, hn => omega
      | n + 1, hn =>
        have l1 := stV_lt T.2.1 h1
        have l2 := stV_lt T.2.2 h2
        rw [← e1] at l1
        rw [← e2] at l2
        have ee := eu_step (x := (m.p, m.r)) T.2.1
        rw [← e1] at ee
        have h3' : m.ws.length + 1 + (eu (m.r, v)).length ≤ 10000 := by rw [ee, List.length_cons] at h3; lia
        obtain ⟨k, l, p, q, r, s, g1, g2, g3⟩ := set_run n (m.step t v w) (by show v.natAbs ≤ n; lia) l1 l2 (by rw [List.length_append, List.length_singleton]; exact h3') h4 h5
        refine ⟨k + 1, t :: l, p, q, r, s, ?_, ?_, g3⟩
        · refine .step (bd_of h1 h2 (by omega) h4 h5) hs ?_
          have e : ({ m with p := p, q := q, r := r, s := s, t := m.t + (t :: l).length, ws := m.ws ++ t :: l } : Mc σ) = { m.step t v w with p := p, q := q, r := r, s := s, t := (m.step t v w).t + l.length, ws := (m.step t v w).ws ++ l } := by
            have : m.t + (l.length + 1) = m.t + 1 + l.length := by lia
            simp [this]
          rw [e]; exact g1
        · refine .cons T ?_
          rw [← e1, ← e2]; exact g2
theorem St2.same {l : List Int} {x u w : Vc} (r : St2 l x x u w) : u = w := by
  have : ∀ {l : List Int} {x y u w : Vc}, St2 l x y u w → x = y → u = w := fun r => by
    induction r with
    | nil => exact id
    | cons T r ih => exact fun h => ih (by rw [h])
  exact this r rfl
end
noncomputable section
structure LOk (a b c d : Int) (L : List Int) : Prop where
  pos : ∀ t ∈ L.tail, 1 ≤ t
  len : L.length ≤ 100
  sm : ∀ t ∈ L, t.natAbs < 2 ^ 190
  b1 : Lt (2 ^ 190) (a, c)
  b2 : Lt (2 ^ 190) (b, d)
  lt : ∀ n, 0 < n → n ≤ L.length → Lt (2 ^ 190) (FV a b c d (endF (L.take n) 0)) ∧ Lt (2 ^ 190) (FV a b c d (endF (L.take n) 1))
structure Cor {σ : Type} (a b c d : Int) (L : List Int) (n : Nat) (tl : List Int) (m : Mc σ) : Prop where
  f : m.f = false
  t : m.t = tl.length
  hd : m.hd = L.take n
  ak : m.ak = (List.range n).map (cntF a b c d L)
  tn : tl.length = cntF a b c d L n
  z0 : n = 0 → tl = [] ∧ m.p = a ∧ m.q = b ∧ m.r = c ∧ m.s = d
  zs : 0 < n → St2 tl (FV a b c d (endF (L.take n) 0)) (FV a b c d (endF (L.take n) 1)) (m.p, m.r) (m.p + m.q, m.r + m.s)
theorem take_ne {L : List Int} {n : Nat} (h : 0 < n) (h2 : n ≤ L.length) : L.take n ≠ [] := by
  intro e
  have := congrArg List.length e
  rw [List.length_take, List.length_nil] at this; lia
theorem told_len {tl : List Int} {x y : Vc} {p q r s : Int} (h : St2 tl x y (p, r) (p + q, r + s)) (hs : settleF p q r s = none) :
    tl.length = if x.2 * y.2 ≤ 0 then 0 else comF (eu x) (eu y) := by
  by_cases hp : x.2 * y.2 ≤ 0
  · rw [if_pos hp]
    by_cases ht : tl = []
    · rw [ht]; rfl
    · have := (h.sign ht).1; lia
  · rw [if_neg hp, h.eu.1, h.eu.2, comF_app]
    suffices comF (eu (p, r)) (eu (p + q, r + s)) = 0 by rw [this]; exact Eq.symm ((fun {a b} => Nat.add_eq_left.mpr) rfl)
    rcases settle_none hs with h0 | h0 | h0 | h0
    · rw [h0, eu_zero, comF_nl]
    · rw [h0, eu_zero, comF_nr]
    · by_cases r0 : r = 0
      · rw [r0, eu_zero, comF_nl]
      · by_cases rs0 : r + s = 0
        · rw [rs0, eu_zero, comF_nr]
        · rw [eu_step (x := (p, r)) (qt_of r0), eu_step (x := (p + q, r + s)) (qt_of rs0), comF_ne h0]
    · by_cases ht : tl = []
      · subst ht; cases h; dsimp only at hp; omega
      · have := (h.sign ht).2; dsimp only at this; omega
theorem Cor.len {σ : Type} {a b c d : Int} {L : List Int} {n : Nat} {tl : List Int} {m : Mc σ} (h : Cor a b c d L n tl m) (O : LOk a b c d L) (hn : n ≤ L.length) : tl.length ≤ 380 := by
  by_cases h0 : n = 0
  · rw [(h.z0 h0).1]; exact Nat.zero_le _
  · have e := (h.zs (by exact Nat.zero_lt_of_ne_zero h0)).eu.1
    have := euc_len 190 (FV a b c d (endF (L.take n) 0)).1 _ ((O.lt n (by exact Nat.zero_lt_of_ne_zero h0) hn).1).2
    have e2 := congrArg List.length e
    rw [List.length_append] at e2
    unfold eu at e2
    lia
theorem Cor.lt {σ : Type} {a b c d : Int} {L : List Int} {n : Nat} {tl : List Int} {m : Mc σ} (h : Cor a b c d L n tl m) (O : LOk a b c d L) (h0 : 0 < n) (hn : n ≤ L.length) : Lt (2 ^ 190) (m.p, m.r) ∧ Lt (2 ^ 190) (m.p + m.q, m.r + m.s) :=
  (h.zs h0).lt (O.lt n h0 hn).1 (O.lt n h0 hn).2
theorem Cor.bd {σ : Type} {a b c d : Int} {L : List Int} {n : Nat} {tl : List Int} {m : Mc σ} (h : Cor a b c d L n tl m) (O : LOk a b c d L) (hn : n ≤ L.length) (hw : m.ws.length ≤ 10000) : Bd m := by
  have h4 : m.ak.length ≤ 10000 := by rw [h.ak, List.length_map, List.length_range]; have := O.len; lia
  have h5 : m.hd.length ≤ 10000 := by rw [h.hd, List.length_take]; have := O.len; lia
  by_cases h0 : n = 0
  · obtain ⟨_, e1, e2, e3, e4⟩ := h.z0 h0
    exact ⟨by rw [e1]; exact Nat.lt_trans O.b1.1 (by decide), by rw [e2]; exact Nat.lt_trans O.b2.1 (by decide), by rw [e3]; exact Nat.lt_trans O.b1.2 (by decide), by rw [e4]; exact Nat.lt_trans O.b2.2 (by decide), hw, h4, h5⟩
  · obtain ⟨l1, l2⟩ := h.lt O (by exact Nat.zero_lt_of_ne_zero h0) hn
    exact bd_of l1 l2 hw h4 h5
theorem Cor.pre {σ : Type} {a b c d : Int} {L : List Int} {n : Nat} {tl : List Int} {m : Mc σ} (h : Cor a b c d L n tl m) (O : LOk a b c d L) (hn : n ≤ L.length) : ∃ r, eu (FV a b c d (fracF L)) = tl ++ r := by
  by_cases h0 : n = 0
  · rw [(h.z0 h0).1]; exact ⟨_, rfl⟩
  · have hpos : ∀ t ∈ L.drop n, 1 ≤ t := fun t ht => O.pos t (by
      obtain ⟨k, rfl⟩ : ∃ k, n = k + 1 := ⟨n - 1, by exact Eq.symm (Nat.succ_pred_eq_of_ne_zero h0)⟩
      rw [← List.drop_one]
      rw [Nat.add_comm, ← List.drop_drop] at ht
      exact List.mem_of_mem_drop ht)
    obtain ⟨α, β, hc, e⟩ := frac_cone (L.drop n) (L.take n) (take_ne (by omega) hn) hpos
    rw [List.take_append_drop] at e
    rw [e, FV_cb]
    exact ⟨_, ((h.zs (by omega)).comb hc hc).eu.1⟩
theorem range_snoc {α : Type} (f : Nat → α) (n : Nat) : (List.range n).map f ++ [f n] = (List.range (n + 1)).map f := by
  rw [List.range_succ, List.map_append]; rfl
section
variable {σ : Type} {a b c d : Int} {L : List Int}
theorem hear_some {n : Nat} {tl : List Int} {m : Mc σ} (h : Cor a b c d L n tl m) (O : LOk a b c d L) (hn : n < L.length) (hw : m.ws = []) (z : σ) :
    ∃ k tl' m₁, SetN k (hearF m (some L[n]) z) m₁ ∧ Cor a b c d L (n + 1) (tl ++ tl') m₁ ∧ m₁.ws = tl' ∧ m₁.z = z := by
  obtain ⟨p, q, r, s, t, f, ws, ak, hd, z0⟩ := m
  have et : L.take (n + 1) = L.take n ++ [L[n]] := List.take_succ_eq_append_getElem hn
  have hO := O.lt (n + 1) (by exact Nat.zero_lt_succ n) (by assumption)
  dsimp only at hw
  subst hw
  -- the ends behind the word
  have hS : St2 tl (FV a b c d (endF (L.take (n + 1)) 0)) (FV a b c d (endF (L.take (n + 1)) 1)) (p * L[n] + q, r * L[n] + s) (p * L[n] + q + p, r * L[n] + s + r) := by
    by_cases h0 : n = 0
    · subst h0
      obtain ⟨e0, e1, e2, e3, e4⟩ := h.z0 rfl
      dsimp only at e1 e2 e3 e4
      subst e0 e1 e2 e3 e4
      rw [et, List.take_zero, List.nil_append, endF_one, endF_one]
      have g1 : FV p q r s (L[0] + 0, 1) = (p * L[0] + q, r * L[0] + s) := by simp only [FV, topF]; refine Prod.ext ?_ ?_ <;> dsimp only <;> grind
      have g2 : FV p q r s (L[0] + 1, 1) = (p * L[0] + q + p, r * L[0] + s + r) := by simp only [FV, topF]; refine Prod.ext ?_ ?_ <;> dsimp only <;> grind
      rw [g1, g2]
      exact .nil
    · have hi : 1 ≤ L[n] := O.pos _ (by
        obtain ⟨k, rfl⟩ : ∃ k, n = k + 1 := ⟨n - 1, by exact Eq.symm (Nat.succ_pred_eq_of_ne_zero h0)⟩
        cases L with
        | nil => simp at hn
        | cons x xs => exact List.getElem_mem _)
      have hz := h.zs (by exact Nat.zero_lt_of_ne_zero h0)
      have hne := take_ne (L := L) (n := n) (by exact Nat.zero_lt_of_ne_zero h0) (by exact Nat.le_of_succ_le hn)
      have := hz.comb (α := L[n] + 0 - 1) (β := 1) (α' := L[n] + 1 - 1) (β' := 1) ⟨by lia, by exact Int.one_nonneg, by lia⟩ ⟨by lia, by exact Int.one_nonneg, by lia⟩
      rw [← FV_cb, ← FV_cb, ← endF_next hne, ← endF_next hne, ← et] at this
      have g1 : cb (L[n] + 0 - 1) 1 (p, r) (p + q, r + s) = (p * L[n] + q, r * L[n] + s) := by simp only [cb]; refine Prod.ext ?_ ?_ <;> dsimp only <;> grind
      have g2 : cb (L[n] + 1 - 1) 1 (p, r) (p + q, r + s) = (p * L[n] + q + p, r * L[n] + s + r) := by simp only [cb]; refine Prod.ext ?_ ?_ <;> dsimp only <;> grind
      rw [← g1, ← g2]; exact this
  obtain ⟨l1, l2⟩ := hS.lt hO.1 hO.2
  have hel := euc_len 190 (p * L[n] + q) (r * L[n] + s) l1.2
  have hL := O.len
  have h1 := h.ak
  have h2 := h.hd
  have h3 := h.t
  dsimp only at h1 h2 h3
  subst h1 h2 h3
  obtain ⟨k, l, p', q', r', s', g1, g2, g3⟩ := set_run _ (hearF ⟨p, q, r, s, tl.length, f, [], (List.range n).map (cntF a b c d L), L.take n, z0⟩ (some L[n]) z) (Nat.le_refl _) l1 l2 (by show 0 + (eu _).length ≤ 10000; unfold eu; dsimp only [hearF]; omega)
    (by simp [hearF]; lia) (by simp [hearF]; lia)
  have g4 := hS.app g2
  refine ⟨k, l, _, g1, ⟨h.f, ?_, ?_, ?_, ?_, fun h => by lia, fun zz => g4⟩, rfl, rfl⟩
  · show tl.length + l.length = _; rw [List.length_append]
  · show L.take n ++ [L[n]] = _; rw [et]
  · show (List.range n).map (cntF a b c d L) ++ [tl.length] = _
    rw [h.tn, range_snoc]
  · have := told_len g4 g3
    rw [this]
    rfl
theorem hear_none {tl : List Int} {m : Mc σ} (h : Cor a b c d L L.length tl m) (O : LOk a b c d L) (hw : m.ws = []) (z : σ) :
    ∃ k tl' m₁, SetN k (hearF m none z) m₁ ∧ eu (FV a b c d (fracF L)) = tl ++ tl' ∧ m₁.ws = tl' ∧ m₁.f = true ∧ m₁.hd = L ∧ m₁.ak = (List.range (L.length + 1)).map (cntF a b c d L) ∧ m₁.z = z ∧ Bd m₁ := by
  obtain ⟨p, q, r, s, t, f, ws, ak, hd, z0⟩ := m
  dsimp only at hw
  subst hw
  have h1 := h.ak
  have h2 := h.hd
  have h3 := h.t
  dsimp only at h1 h2 h3
  subst h1 h2 h3
  have hT : eu (FV a b c d (fracF L)) = tl ++ eu (p, r) ∧ Lt (2 ^ 190) (p, r) := by
    by_cases h0 : L.length = 0
    · have hL0 := List.length_eq_zero_iff.mp h0
      obtain ⟨e0, e1, e2, e3, e4⟩ := h.z0 h0
      dsimp only at e1 e2 e3 e4
      subst e0 e1 e2 e3 e4
      subst hL0
      refine ⟨?_, O.b1⟩
      have : FV p q r s (fracF []) = (p, r) := by simp [FV, topF, fracF]
      rw [this]; rfl
    · have hz := h.zs (by exact Nat.zero_lt_of_ne_zero h0)
      refine ⟨?_, (h.lt O (by exact Nat.zero_lt_of_ne_zero h0) (Nat.le_refl _)).1⟩
      have := hz.eu.1
      rw [List.take_length] at this
      rw [← endF_frac (fun e => h0 (by rw [e]; rfl))]
      exact this
  have hel := euc_len 190 p r hT.2.2
  have hL := O.len
  obtain ⟨k, l, p', q', r', s', g1, g2, g3⟩ := set_run _ (hearF ⟨p, q, r, s, tl.length, f, [], (List.range L.length).map (cntF a b c d L), L.take L.length, z0⟩ none z) (Nat.le_refl _) hT.2 (by simp only [hearF, Int.add_zero]; exact hT.2)
    (by show 0 + (eu _).length ≤ 10000; unfold eu; dsimp only [hearF]; lia) (by simp [hearF]; lia) (by simp [hearF]; lia)
  dsimp only [hearF] at g2
  rw [Int.add_zero, Int.add_zero] at g2
  have hs := g2.same
  have e1 := congrArg Prod.fst hs
  have e2 := congrArg Prod.snd hs
  dsimp only at e1 e2
  have hlt := (g2.lt hT.2 hT.2).1
  have r0 : r' = 0 := by
    rcases settle_none g3 with h | h | h | h
    · exact h
    · exact cast (congrArg (Eq r') h) e2
    · rw [← e1, ← e2] at h; exact absurd rfl h
    · rw [← e2] at h
      rcases Int.lt_trichotomy r' 0 with h' | h' | h'
      · have := Int.mul_pos_of_neg_of_neg h' h'; lia
      · exact h'
      · have := Int.mul_pos h' h'; omega
  have e3 := g2.eu.1
  rw [r0, eu_zero, List.append_nil] at e3
  have hll : l.length ≤ 380 := by rw [← e3]; unfold eu; exact hel
  refine ⟨k, l, _, g1, by rw [hT.1, e3], rfl, rfl, by show L.take L.length = L; rw [List.take_length], ?_, rfl, ?_⟩
  · show (List.range L.length).map (cntF a b c d L) ++ [tl.length] = _
    rw [h.tn, range_snoc]
  · refine bd_of hlt ?_ ?_ ?_ ?_
    · show Lt _ (p' + q', r' + s')
      rw [← e1, ← e2]; exact hlt
    · show (([] : List Int) ++ l).length ≤ 10000; simp; lia
    · simp [hearF]; omega
    · simp [hearF]; omega
end
end
noncomputable section
structure Fin1 {σ : Type} (a b c d : Int) (L : List Int) (j : Nat) (I : Nat → σ → Prop) (m : Mc σ) : Prop where
  f : m.f = true
  hd : m.hd = L
  ak : m.ak = (List.range (L.length + 1)).map (cntF a b c d L)
  z : I (L.length + 1) m.z
  ws : m.ws = (eu (FV a b c d (fracF L))).drop j
  bd : Bd m
inductive Inv {σ : Type} (a b c d : Int) (L : List Int) (I : Nat → σ → Prop) (j : Nat) (m : Mc σ) : Prop
  | go (n : Nat) (tl : List Int) (hn : n ≤ L.length) (C : Cor a b c d L n tl m) (z : I n m.z) (hj : j ≤ tl.length) (hw : m.ws = tl.drop j) : Inv a b c d L I j m
  | fin (F : Fin1 a b c d L j I m) : Inv a b c d L I j m
section
variable {σ : Type} {a b c d : Int} {L : List Int} {I : Nat → σ → Prop} {St : σ → Option Int → σ → Prop}
theorem Inv.first {m : Mc σ} (z : I 0 m.z) (h1 : m.p = a) (h2 : m.q = b) (h3 : m.r = c) (h4 : m.s = d) (h5 : m.t = 0) (h6 : m.f = false) (h7 : m.ws = []) (h8 : m.ak = []) (h9 : m.hd = []) : Inv a b c d L I 0 m :=
  .go 0 [] (Nat.zero_le _) ⟨h6, h5, h9, h8, rfl, fun zz => ⟨rfl, h1, h2, h3, h4⟩, fun h => absurd h (Nat.lt_irrefl 0)⟩ z (Nat.zero_le _) h7
theorem fin_step {j : Nat} {m : Mc σ} (F : Fin1 a b c d L j I m) : GiveN St 0 m { m with ws := m.ws.tail } (eu (FV a b c d (fracF L)))[j]? ∧ Fin1 a b c d L (j + 1) I { m with ws := m.ws.tail } := by
  have e : m.ws.head? = (eu (FV a b c d (fracF L)))[j]? := by rw [F.ws, List.head?_drop]
  have bm := F.bd
  refine ⟨e ▸ .out (.inr F.f) bm, F.f, F.hd, F.ak, F.z, ?_, ⟨bm.p, bm.q, bm.r, bm.s, ?_, bm.ak, bm.hd⟩⟩
  · show m.ws.tail = _
    rw [F.ws, List.tail_drop]
  · show m.ws.tail.length ≤ _
    rw [List.length_tail]; have := bm.ws; omega
theorem go_one (O : LOk a b c d L) (src : ∀ k z, k ≤ L.length → I k z → ∃ z', St z L[k]? z' ∧ I (k + 1) z') {j e n : Nat} {tl : List Int} {m : Mc σ} (hn : n ≤ L.length) (C : Cor a b c d L n tl m) (z : I n m.z) (hj : j ≤ tl.length) (hw : m.ws = tl.drop j)
    (ih : n < L.length → ∀ (tl : List Int) (m : Mc σ), Cor a b c d L (n + 1) tl m → I (n + 1) m.z → j ≤ tl.length → m.ws = tl.drop j → ∃ N m', N ≤ e ∧ GiveN St N m m' (eu (FV a b c d (fracF L)))[j]? ∧ Inv a b c d L I (j + 1) m') :
    ∃ N m', N ≤ e + 1 ∧ GiveN St N m m' (eu (FV a b c d (fracF L)))[j]? ∧ Inv a b c d L I (j + 1) m' := by
  have hl := C.len O hn
  have hwl : m.ws.length ≤ 10000 := by rw [hw, List.length_drop]; lia
  have bm := C.bd O hn hwl
  obtain ⟨r, hr⟩ := C.pre O hn
  by_cases h : j < tl.length
  · have e1 : m.ws.head? = (eu (FV a b c d (fracF L)))[j]? := by rw [hw, List.head?_drop, hr, List.getElem?_append_left h]
    refine ⟨0, { m with ws := m.ws.tail }, Nat.zero_le _, e1 ▸ .out (.inl ?_) bm, .go n tl hn ⟨C.f, C.t, C.hd, C.ak, C.tn, C.z0, C.zs⟩ z h ?_⟩
    · rw [hw]; intro h0; have := congrArg List.length h0; rw [List.length_drop, List.length_nil] at this; lia
    · show m.ws.tail = _
      rw [hw, List.tail_drop]
  · have hj' : j = tl.length := by lia
    have hw0 : m.ws = [] := by rw [hw, hj', List.drop_length]
    obtain ⟨z', s1, s2⟩ := src n m.z hn z
    by_cases hlt : n < L.length
    · rw [List.getElem?_eq_getElem hlt] at s1
      obtain ⟨k, tl', m₁, g1, C1, g2, g3⟩ := hear_some C O hlt hw0 z'
      have hj2 : j ≤ (tl ++ tl').length := by rw [List.length_append]; exact Nat.le_add_right_of_le hj
      have hw2 : m₁.ws = (tl ++ tl').drop j := by rw [g2, hj', List.drop_left]
      obtain ⟨N, m', hN, g4, g5⟩ := ih hlt (tl ++ tl') m₁ C1 (g3 ▸ s2) hj2 hw2
      exact ⟨N + 1, m', by exact Nat.add_le_add_right hN 1, .turn hw0 C.f bm s1 (fun i hi => by cases hi; exact Nat.lt_trans (O.sm _ (List.getElem_mem hlt)) (by decide)) g1 g4, g5⟩
    · have hnl : n = L.length := by lia
      subst hnl
      rw [List.getElem?_eq_none (Nat.le_refl _)] at s1
      obtain ⟨k, tl', m₁, g1, g2, g3, g4, g5, g6, g7, g8⟩ := hear_none C O hw0 z'
      have F : Fin1 a b c d L j I m₁ := ⟨g4, g5, g6, g7 ▸ s2, by rw [g3, g2, hj', List.drop_left], g8⟩
      obtain ⟨f1, f2⟩ := fin_step (St := St) F
      exact ⟨1, _, by exact Nat.le_add_left 1 e, .turn hw0 C.f bm s1 (fun i hi => by cases hi) g1 f1, .fin f2⟩
theorem go_step (O : LOk a b c d L) (src : ∀ k z, k ≤ L.length → I k z → ∃ z', St z L[k]? z' ∧ I (k + 1) z') {j : Nat} (e : Nat) : ∀ (n : Nat) (tl : List Int) (m : Mc σ), L.length ≤ n + e → n ≤ L.length → Cor a b c d L n tl m → I n m.z → j ≤ tl.length → m.ws = tl.drop j →
    ∃ N m', N ≤ e + 1 ∧ GiveN St N m m' (eu (FV a b c d (fracF L)))[j]? ∧ Inv a b c d L I (j + 1) m' := by
  induction e with
  | zero => exact fun n tl m he hn C z hj hw => go_one O src hn C z hj hw fun h => absurd h (Nat.not_lt.mpr he)
  | succ e ih => exact fun n tl m he hn C z hj hw => go_one O src hn C z hj hw fun h tl m => ih (n + 1) tl m (by lia) h
theorem inv_step (O : LOk a b c d L) (src : ∀ k z, k ≤ L.length → I k z → ∃ z', St z L[k]? z' ∧ I (k + 1) z') {j : Nat} {m : Mc σ} (h : Inv a b c d L I j m) :
    ∃ m', StM St m (eu (FV a b c d (fracF L)))[j]? m' ∧ Inv a b c d L I (j + 1) m' := by
  cases h with
  | fin F => exact let ⟨f1, f2⟩ := fin_step F; ⟨_, ⟨0, Nat.zero_le _, f1⟩, .fin f2⟩
  | go n tl hn C z hj hw =>
    obtain ⟨N, m', hN, g1, g2⟩ := go_step O src L.length n tl m (Nat.le_add_left _ _) hn C z hj hw
    exact ⟨m', ⟨N, by have := O.len; lia, g1⟩, g2⟩
theorem Inv.done (O : LOk a b c d L) {j : Nat} {m : Mc σ} (h : Inv a b c d L I j m) (hj : (eu (FV a b c d (fracF L))).length < j) : Fin1 a b c d L j I m := by
  cases h with
  | fin F => exact F
  | go n tl hn C z h1 hw =>
    obtain ⟨r, hr⟩ := C.pre O hn
    have := congrArg List.length hr
    rw [List.length_append] at this; lia
theorem inv_chain (O : LOk a b c d L) (src : ∀ k z, k ≤ L.length → I k z → ∃ z', St z L[k]? z' ∧ I (k + 1) z') : ∀ (k j : Nat) (m : Mc σ), Inv a b c d L I j m →
    ∃ m', Ch (StM St) m ((List.range' j k).map fun i => (eu (FV a b c d (fracF L)))[i]?) m' ∧ Inv a b c d L I (j + k) m'
  | 0, j, m, h => ⟨m, .nil, h⟩
  | k + 1, j, m, h => by
    obtain ⟨m1, s1, h1⟩ := inv_step O src h
    obtain ⟨m', g1, g2⟩ := inv_chain O src k (j + 1) m1 h1
    refine ⟨m', ?_, by rw [show j + (k + 1) = j + 1 + k by exact Eq.symm (Nat.succ_add_eq_add_succ j k)]; exact g2⟩
    rw [List.range'_succ, List.map_cons]
    exact .cons s1 g1
end
noncomputable def dueF : List Int → List Int
  | [] => []
  | [t] => [t]
  | [t, u] => if u = 1 then [t + 1] else [t, u]
  | t :: ts => t :: dueF ts
theorem pos_frac : ∀ {ts : List Int}, (∀ t ∈ ts, 1 ≤ t) → 1 ≤ (fracF ts).1 ∧ 0 ≤ (fracF ts).2
  | [], _ => by simp [fracF]
  | t :: ts, h => by
    obtain ⟨h1, h2⟩ := pos_frac (ts := ts) fun x hx => h x (.tail _ hx)
    have h0 := h t (.head _)
    have := Int.mul_le_mul_of_nonneg_right h0 (show 0 ≤ (fracF ts).1 by exact Int.le_of_lt h1)
    rw [Int.one_mul] at this
    simp only [fracF]; lia
theorem le_frac : ∀ {ts : List Int}, (∀ t ∈ ts, 1 ≤ t) → (fracF ts).2 ≤ (fracF ts).1 ∧ ((fracF ts).2 = (fracF ts).1 → ts = [1])
  | [], _ => by simp [fracF]
  | t :: ts, h => by
    obtain ⟨h1, h2⟩ := pos_frac (ts := ts) fun x hx => h x (.tail _ hx)
    have h0 := h t (.head _)
    have h3 := Int.mul_le_mul_of_nonneg_right h0 (show 0 ≤ (fracF ts).1 by exact Int.le_of_lt h1)
    rw [Int.one_mul] at h3
    simp only [fracF]
    refine ⟨by omega, fun e => ?_⟩
    have hB : (fracF ts).2 = 0 := by lia
    have ht : ts = [] := by
      cases ts with
      | nil => rfl
      | cons u us =>
        have := (pos_frac (ts := us) fun x hx => h x (.tail _ (.tail _ hx))).1
        simp only [fracF] at hB; lia
    subst ht
    simp [fracF] at e
    rw [e]
theorem eu_frac : ∀ {t : Int} {ts : List Int}, (∀ x ∈ ts, 1 ≤ x) → eu (fracF (t :: ts)) = dueF (t :: ts)
  | t, [], _ => by
    have : eu (fracF [t]) = [t] := by
      have e : fracF [t] = (t, 1) := by simp [fracF]
      rw [e, eu_step (t := t) (x := (t, 1)) (.inl ⟨Int.one_pos, by dsimp only; lia, by dsimp only; lia⟩)]
      show _ :: euc 1 (t - t * 1) = _
      rw [Int.mul_one, Int.sub_self, euc_zero]
    exact this
  | t, u :: us, h => by
    have h' : ∀ x ∈ us, 1 ≤ x := fun x hx => h x (.tail _ hx)
    obtain ⟨p1, p2⟩ := pos_frac h
    obtain ⟨q1, q2⟩ := le_frac h
    by_cases e : (fracF (u :: us)).2 = (fracF (u :: us)).1
    · have := q2 e
      simp only [List.cons.injEq] at this
      obtain ⟨rfl, rfl⟩ := this
      have e1 : fracF [t, 1] = (t + 1, 1) := by simp [fracF]
      rw [e1, eu_step (t := t + 1) (x := (t + 1, 1)) (.inl ⟨Int.one_pos, by dsimp only; lia, by dsimp only; lia⟩)]
      show _ :: euc 1 (t + 1 - (t + 1) * 1) = _
      rw [Int.mul_one, Int.sub_self, euc_zero]
      rfl
    · have ih := eu_frac (t := u) h'
      rw [fracF, eu_step (t := t) (.inl ⟨by dsimp only; assumption, by dsimp only; exact Int.le_add_of_nonneg_right p2, by dsimp only; lia⟩)]
      have es : stV t (t * (fracF (u :: us)).1 + (fracF (u :: us)).2, (fracF (u :: us)).1) = fracF (u :: us) := by
        simp only [stV]; refine Prod.ext rfl ?_; dsimp only; exact Int.sub_eq_iff_eq_add'.mpr rfl
      rw [es, ih]
      match us with
      | [] =>
        have : u ≠ 1 := fun hu => by
          subst hu; simp [fracF] at e
        simp [dueF, this]
      | x :: xs => rfl
end
noncomputable section
noncomputable def sc (k : Int) (x : Vc) : Vc := (k * x.1, k * x.2)
theorem mul_lt {k a b : Int} (hk : 0 < k) (h : a < b) : k * a < k * b := Int.mul_lt_mul_of_pos_left h hk
theorem qt_sc {t : Int} {x : Vc} {k : Int} (hk : k ≠ 0) (h : Qt t x.1 x.2) : Qt t (sc k x).1 (sc k x).2 := by
  obtain ⟨x1, x2⟩ := x
  simp only [sc]
  dsimp only at h
  have e1 : t * (k * x2) = k * (t * x2) := by grind
  have e2 : k * (t * x2 + x2) = k * (t * x2) + k * x2 := by grind
  rw [Qt]
  rw [e1, ← e2]
  have key : ∀ {k : Int}, 0 < k → ∀ {y : Int}, 0 < y → 0 < k * y := fun h zz h' => Int.mul_pos h h'
  rcases Int.lt_or_gt_of_ne hk with hk | hk
  · have n1 : ∀ a b : Int, a < b → k * b < k * a := fun a b h => by
      have := mul_lt (show 0 < -k by exact Int.neg_pos_of_neg hk) h
      rw [Int.neg_mul, Int.neg_mul] at this; exact Int.mul_lt_mul_of_neg_left h hk
    have n2 : ∀ a b : Int, a ≤ b → k * b ≤ k * a := fun a b h => by
      rcases Int.lt_or_eq_of_le h with h | h
      · exact Int.le_of_lt (n1 a b h)
      · rw [h]; exact Int.le_refl _
    rcases h with ⟨a, b, c⟩ | ⟨a, b, c⟩
    · right; exact ⟨by have := n1 _ _ a; rw [Int.mul_zero] at this; exact this, n2 _ _ b, n1 _ _ c⟩
    · left; exact ⟨by have := n1 _ _ a; rw [Int.mul_zero] at this; exact this, n2 _ _ b, n1 _ _ c⟩
  · have n1 : ∀ a b : Int, a < b → k * a < k * b := fun a b h => mul_lt hk h
    have n2 : ∀ a b : Int, a ≤ b → k * a ≤ k * b := fun a b h => Int.mul_le_mul_of_nonneg_left h (Int.le_of_lt hk)
    rcases h with ⟨a, b, c⟩ | ⟨a, b, c⟩
    · left; exact ⟨by have := n1 _ _ a; rw [Int.mul_zero] at this; exact this, n2 _ _ b, n1 _ _ c⟩
    · right; exact ⟨by have := n1 _ _ a; rw [Int.mul_zero] at this; exact this, n2 _ _ b, n1 _ _ c⟩
theorem stV_sc (t k : Int) (x : Vc) : stV t (sc k x) = sc k (stV t x) := by
  simp only [stV, sc]; refine Prod.ext rfl ?_; dsimp only; grind
theorem stV_small {t : Int} {x : Vc} (h : Qt t x.1 x.2) : (stV t x).2.natAbs < x.2.natAbs := by
  simp only [stV]; rcases h with h | h <;> omega
theorem eu_sc {k : Int} (hk : k ≠ 0) : ∀ (n : Nat) (x : Vc), x.2.natAbs ≤ n → eu (sc k x) = eu x
  | n, x, hn => by
    by_cases h0 : x.2 = 0
    · have e1 : sc k x = (k * x.1, 0) := by simp only [sc]; rw [h0, Int.mul_zero]
      have e2 : x = (x.1, 0) := Prod.ext rfl h0
      rw [e1, eu_zero]; rw [e2, eu_zero]
    · have q := qt_of (x := x.1) h0
      match n, hn with
      | 0, hn => lia
      | n + 1, hn =>
        have := stV_small q
        rw [eu_step q, eu_step (qt_sc hk q), stV_sc, eu_sc hk n _ (by omega)]
theorem frac_eu : ∀ (n : Nat) (x : Vc), x.2.natAbs ≤ n → ∃ g, x = sc g (fracF (eu x))
  | n, x, hn => by
    by_cases h0 : x.2 = 0
    · have e2 : x = (x.1, 0) := Prod.ext rfl h0
      refine ⟨x.1, ?_⟩
      rw [e2, eu_zero]; simp [fracF, sc]
    · have q := qt_of (x := x.1) h0
      match n, hn with
      | 0, hn => omega
      | n + 1, hn =>
        have := stV_small q
        obtain ⟨g, hg⟩ := frac_eu n (stV (x.1.fdiv x.2) x) (by omega)
        refine ⟨g, ?_⟩
        rw [eu_step q]
        generalize x.1.fdiv x.2 = t at hg ⊢
        generalize eu (stV t x) = l at hg ⊢
        have g1 := congrArg Prod.fst hg
        have g2 := congrArg Prod.snd hg
        simp only [stV, sc] at g1 g2
        simp only [fracF, sc]
        refine Prod.ext ?_ ?_
        · dsimp only
          have e : g * (t * (fracF l).1 + (fracF l).2) = t * (g * (fracF l).1) + g * (fracF l).2 := by grind
          rw [e, ← g1, ← g2]; exact Int.sub_eq_iff_eq_add'.mp rfl
        · exact g1
theorem back_eu {a b c d : Int} {y : Vc} (hdet : a * d ≠ b * c) (hy : y.2 ≠ 0) : eu (FV d (-b) (-c) a (fracF (eu (FV a b c d y)))) = eu y := by
  obtain ⟨g, hg⟩ := frac_eu _ (FV a b c d y) (Nat.le_refl _)
  generalize fracF (eu (FV a b c d y)) = z at hg ⊢
  have g1 := congrArg Prod.fst hg
  have g2 := congrArg Prod.snd hg
  simp only [FV, topF, sc] at g1 g2
  have e : sc g (FV d (-b) (-c) a z) = sc (a * d - b * c) y := by
    simp only [sc, FV, topF]
    refine Prod.ext ?_ ?_
    · dsimp only
      have e : g * (d * z.1 + -b * z.2) = d * (g * z.1) + -b * (g * z.2) := by grind
      rw [e, ← g1, ← g2]; grind
    · dsimp only
      have e : g * (-c * z.1 + a * z.2) = -c * (g * z.1) + a * (g * z.2) := by grind
      rw [e, ← g1, ← g2]; grind
  have hd : a * d - b * c ≠ 0 := by (clear e g2 g1 hg hy; lia)
  have hg0 : g ≠ 0 := fun h => by
    have := congrArg Prod.snd e
    simp only [sc, h, Int.zero_mul] at this
    exact Int.mul_ne_zero hd hy this.symm
  rw [← eu_sc hg0 _ _ (Nat.le_refl _), e, eu_sc hd _ _ (Nat.le_refl _)]
theorem eu_lt {B : Nat} : ∀ (n : Nat) (x : Vc), x.2.natAbs ≤ n → Lt B x → ∀ t ∈ eu x, t.natAbs < B
  | n, x, hn, hb, t, ht => by
    by_cases h0 : x.2 = 0
    · have e2 : x = (x.1, 0) := Prod.ext rfl h0
      rw [e2, eu_zero] at ht; cases ht
    · have q := qt_of (x := x.1) h0
      match n, hn with
      | 0, hn => lia
      | n + 1, hn =>
        have := stV_small q
        rw [eu_step q] at ht
        rcases List.mem_cons.mp ht with rfl | ht
        · exact Nat.lt_of_le_of_lt (fdiv_le _ _) hb.1
        · exact eu_lt n _ (by omega) (stV_lt q hb) t ht
theorem eu_posR : ∀ (n : Nat) (x : Vc), x.2.natAbs ≤ n → (0 ≤ x.2 ∧ x.2 < x.1) ∨ (x.2 ≤ 0 ∧ x.1 < x.2) → ∀ t ∈ eu x, 1 ≤ t
  | n, x, hn, hb, t, ht => by
    by_cases h0 : x.2 = 0
    · have e2 : x = (x.1, 0) := Prod.ext rfl h0
      rw [e2, eu_zero] at ht; cases ht
    · have q := qt_of (x := x.1) h0
      match n, hn with
      | 0, hn => omega
      | n + 1, hn =>
        have hs := stV_small q
        rw [eu_step q] at ht
        generalize x.1.fdiv x.2 = u at *
        rcases List.mem_cons.mp ht with rfl | ht
        · refine Int.not_lt.mp fun h => ?_
          rcases q with ⟨a, b, c⟩ | ⟨a, b, c⟩
          · have := Int.mul_le_mul_of_nonneg_right (show t ≤ 0 by exact Int.le_iff_lt_add_one.mpr h) (Int.le_of_lt a)
            rw [Int.zero_mul] at this; lia
          · have := Int.mul_le_mul_of_nonneg_right (show t ≤ 0 by exact Int.le_iff_lt_add_one.mpr h) (show 0 ≤ -x.2 by lia)
            rw [Int.zero_mul, Int.mul_neg] at this; lia
        · refine eu_posR n _ (by lia) ?_ t ht
          simp only [stV]
          rcases q with ⟨a, b, c⟩ | ⟨a, b, c⟩
          · left; omega
          · right; omega
theorem eu_pos (x : Vc) : ∀ t ∈ (eu x).tail, 1 ≤ t := by
  by_cases h0 : x.2 = 0
  · have e2 : x = (x.1, 0) := Prod.ext rfl h0
    rw [e2, eu_zero]; simp
  · have q := qt_of (x := x.1) h0
    rw [eu_step q]
    refine eu_posR _ _ (Nat.le_refl _) ?_
    simp only [stV]
    rcases q with ⟨a, b, c⟩ | ⟨a, b, c⟩
    · left; omega
    · right; omega
theorem frac_mono : ∀ (ts : List Int) (k : Nat), (∀ t ∈ ts, 1 ≤ t) → (fracF (ts.take k)).1 ≤ (fracF ts).1 ∧ (fracF (ts.take k)).2 ≤ (fracF ts).2
  | ts, 0, h => by
    have := pos_frac h
    rw [List.take_zero]; simp only [fracF]; omega
  | [], k + 1, _ => by simp
  | t :: ts, k + 1, h => by
    obtain ⟨h1, h2⟩ := frac_mono ts k fun x hx => h x (.tail _ hx)
    have h0 := h t (.head _)
    have := Int.mul_le_mul_of_nonneg_left h1 (show 0 ≤ t by exact Int.le_of_lt h0)
    rw [List.take_succ_cons]
    simp only [fracF]; lia
theorem mul_small {a b : Int} {A B : Nat} (h1 : a.natAbs < A) (h2 : b.natAbs < B) : (a * b).natAbs ≤ A * B := by
  rw [Int.natAbs_mul]; exact Nat.mul_le_mul (Nat.le_of_lt h1) (Nat.le_of_lt h2)
theorem FV_lt {a b c d : Int} {A B : Nat} {x : Vc} (ha : a.natAbs < A) (hb : b.natAbs < A) (hc : c.natAbs < A) (hd : d.natAbs < A) (hx : Lt B x) : Lt (2 * (A * B) + 1) (FV a b c d x) := by
  have h1 := mul_small ha hx.1
  have h2 := mul_small hb hx.2
  have h3 := mul_small hc hx.1
  have h4 := mul_small hd hx.2
  have h5 := Int.natAbs_add_le (a * x.1) (b * x.2)
  have h6 := Int.natAbs_add_le (c * x.1) (d * x.2)
  exact ⟨by simp only [FV, topF]; lia, by simp only [FV, topF]; lia⟩
theorem Lt.mono {A B : Nat} {x : Vc} (h : Lt A x) (k : A ≤ B) : Lt B x := ⟨Nat.lt_of_lt_of_le h.1 k, Nat.lt_of_lt_of_le h.2 k⟩
theorem endF_add {l : List Int} (h : l ≠ []) : endF l 1 = ((fracF l).1 + (fracF l.dropLast).1, (fracF l).2 + (fracF l.dropLast).2) := by
  obtain ⟨l', j, rfl⟩ : ∃ l' j, l = l' ++ [j] := ⟨l.dropLast, l.getLast h, (List.dropLast_concat_getLast h).symm⟩
  rw [endF_snoc1, List.dropLast_concat, GV_frac, GV_frac, GV_snoc]
  have := GV_cb 1 1 (j, 1) (1, 0) l'
  simp only [cb, Int.one_mul] at this
  simpa using this
theorem part_lt {L : List Int} {B : Nat} (hp : ∀ t ∈ L.tail, 1 ≤ t) (hB : ∀ t ∈ L, t.natAbs < B) (hD : (fracF L).2.natAbs < B) (n : Nat) (h0 : 0 < B) : Lt (B * B + B + 1) (fracF (L.take n)) := by
  match L, n with
  | _, 0 =>
    rw [List.take_zero]
    have h1 : 0 < B * B := Nat.mul_pos h0 h0
    constructor
    · show (1 : Int).natAbs < _; rw [Int.natAbs_one]; lia
    · show (0 : Int).natAbs < _; rw [Int.natAbs_zero]; exact Nat.zero_lt_succ (B * B + B)
  | [], n + 1 =>
    have h1 : 0 < B * B := Nat.mul_pos h0 h0
    rw [List.take_nil]
    constructor
    · show (1 : Int).natAbs < _; rw [Int.natAbs_one]; lia
    · show (0 : Int).natAbs < _; rw [Int.natAbs_zero]; exact Nat.zero_lt_succ (B * B + B)
  | t :: ts, n + 1 =>
    rw [List.tail_cons] at hp
    obtain ⟨m1, m2⟩ := frac_mono ts n hp
    obtain ⟨p1, p2⟩ := pos_frac (ts := ts.take n) fun x hx => hp x (List.mem_of_mem_take hx)
    obtain ⟨q1, _⟩ := le_frac (ts := ts.take n) fun x hx => hp x (List.mem_of_mem_take hx)
    have ht := hB t (.head _)
    simp only [fracF] at hD
    have hA : (fracF (ts.take n)).1.natAbs < B := by lia
    have := mul_small ht hA
    have := Int.natAbs_add_le (t * (fracF (ts.take n)).1) (fracF (ts.take n)).2
    rw [List.take_succ_cons]
    constructor
    · simp only [fracF]; lia
    · simp only [fracF]
      have : B ≤ B * B + B := Nat.le_add_left _ _
      lia
theorem ends_lt {L : List Int} {B : Nat} (hp : ∀ t ∈ L.tail, 1 ≤ t) (hB : ∀ t ∈ L, t.natAbs < B) (hD : (fracF L).2.natAbs < B) (h0 : 0 < B) (n : Nat) (hn : 0 < n) (hl : n ≤ L.length) :
    Lt (2 * (B * B + B + 1)) (endF (L.take n) 0) ∧ Lt (2 * (B * B + B + 1)) (endF (L.take n) 1) := by
  have hne := take_ne hn hl
  have p1 := part_lt hp hB hD n h0
  have p2 := part_lt hp hB hD (n - 1) h0
  have e : (L.take n).dropLast = L.take (n - 1) := by
    rw [List.dropLast_eq_take, List.length_take, List.take_take]; congr 1; lia
  rw [endF_frac hne, endF_add hne, e]
  obtain ⟨a1, a2⟩ := p1
  obtain ⟨b1, b2⟩ := p2
  generalize B * B + B + 1 = X at *
  exact ⟨⟨by lia, by lia⟩, ⟨by dsimp only; (clear b2 a2 e hne hl hn h0 hD hB hp; omega), by dsimp only; (clear b1 a1 e hne hl hn h0 hD hB hp; omega)⟩⟩
theorem lok {a b c d : Int} {L : List Int} (hp : ∀ t ∈ L.tail, 1 ≤ t) (hB : ∀ t ∈ L, t.natAbs < 2 ^ 30) (hD : (fracF L).2.natAbs < 2 ^ 30) (hl : L.length ≤ 100) (ha : a.natAbs < 6) (hb : b.natAbs < 6) (hc : c.natAbs < 6) (hd : d.natAbs < 6) : LOk a b c d L where
  pos := hp
  len := hl
  sm := fun t ht => Nat.lt_trans (hB t ht) (by decide)
  b1 := ⟨Nat.lt_trans ha (by decide), Nat.lt_trans hc (by decide)⟩
  b2 := ⟨Nat.lt_trans hb (by decide), Nat.lt_trans hd (by decide)⟩
  lt := fun n hn hl => by
    obtain ⟨e1, e2⟩ := ends_lt hp hB hD (by decide) n hn hl
    exact ⟨(FV_lt ha hb hc hd e1).mono (by decide), (FV_lt ha hb hc hd e2).mono (by decide)⟩
end
noncomputable section
noncomputable def nl (l : List Nat) : Int := (l.count 10 : Nat)
theorem trip {α β : Type} {a : α} {b : β} {z z' : Int} (h : z = z') : (a, b, z) = (a, b, z') := by rw [h]
theorem nl_nil : nl [] = 0 := rfl
theorem nl_app (l m : List Nat) : nl (l ++ m) = nl l + nl m := by unfold nl; rw [List.count_append]; push_cast; rfl
theorem nl_cons (c : Nat) (l : List Nat) : nl (c :: l) = lnN (nl l) c := by
  unfold nl lnN
  by_cases h : c = 10
  · subst h; simp
  · rw [if_neg h, List.count_cons_of_ne (by omega)]
noncomputable def pc (p : Bool × Nat) : List Nat := (if p.1 then [92] else []) ++ [p.2]
noncomputable def psG (st : Nat) (w : List Nat) : List (Bool × Nat) := w.map fun s => (escG st s, s)
theorem psG_pc (st : Nat) (w : List Nat) : (psG st w).map pc = piecesG st w := by
  unfold psG piecesG
  rw [List.map_map]; rfl
theorem psG_snd (st : Nat) (w : List Nat) : (psG st w).map Prod.snd = w := by
  unfold psG
  rw [List.map_map]
  exact List.map_id' w
theorem nl_pcs : ∀ ps : List (Bool × Nat), nl ((ps.map pc).flatten) = nl (ps.map Prod.snd)
  | [] => rfl
  | (b, s) :: ps => by
    rw [List.map_cons, List.flatten_cons, nl_app, nl_pcs ps, List.map_cons, nl_cons]
    have : nl (pc (b, s)) = lnN 0 s := by
      cases b
      · show nl [s] = _; rw [nl_cons]; rfl
      · show nl [92, s] = _; rw [nl_cons, nl_cons]; unfold lnN; simp [nl_nil]
    rw [this]
    unfold lnN; split <;> lia
theorem qLem : ∀ (ps : List (Bool × Nat)) (tok r : List Nat) (n : Int), (∀ p ∈ ps, p.1 = false → p.2 ≠ 34 ∧ p.2 ≠ 92) → qGo tok ((ps.map pc).flatten ++ 34 :: r) n = (tok ++ ps.map Prod.snd, r, n + nl (ps.map Prod.snd))
  | [], tok, r, n, _ => by
    show qGo tok (34 :: r) n = _
    rw [qGo_q]; simp [nl_nil]
  | (b, s) :: ps, tok, r, n, h => by
    have ih := qLem ps (tok ++ [s]) r (lnN n s) fun p hp => h p (.tail _ hp)
    have e : qGo tok (((b, s) :: ps).map pc |>.flatten.append (34 :: r)) n = qGo (tok ++ [s]) ((ps.map pc).flatten ++ 34 :: r) (lnN n s) := by
      cases b
      · obtain ⟨h1, h2⟩ := h (false, s) (.head _) rfl
        exact qGo_b h1 h2
      · exact qGo_e
    show qGo tok (((b, s) :: ps).map pc |>.flatten.append (34 :: r)) n = _
    rw [e, ih, List.map_cons, nl_cons, List.append_assoc]
    refine trip ?_
    unfold lnN; split <;> lia
theorem bLem : ∀ (ps : List (Bool × Nat)) (tok r : List Nat) (n : Int) (c : Nat), isW c = true → (∀ p ∈ ps, p.1 = false → isW p.2 = false ∧ p.2 ≠ 92) → bGo tok ((ps.map pc).flatten ++ c :: r) n = (tok ++ ps.map Prod.snd, r, lnN (n + nl (ps.map Prod.snd)) c)
  | [], tok, r, n, c, hc, _ => by
    show bGo tok (c :: r) n = _
    rw [bGo_w hc]; simp [nl_nil]
  | (b, s) :: ps, tok, r, n, c, hc, h => by
    have ih := bLem ps (tok ++ [s]) r (lnN n s) c hc fun p hp => h p (.tail _ hp)
    have e : bGo tok (((b, s) :: ps).map pc |>.flatten.append (c :: r)) n = bGo (tok ++ [s]) ((ps.map pc).flatten ++ c :: r) (lnN n s) := by
      cases b
      · obtain ⟨h1, h2⟩ := h (false, s) (.head _) rfl
        exact bGo_b h1 h2
      · exact bGo_e
    show bGo tok (((b, s) :: ps).map pc |>.flatten.append (c :: r)) n = _
    rw [e, ih, List.map_cons, nl_cons, List.append_assoc]
    refine trip ?_
    unfold lnN; split <;> split <;> lia
theorem tSkip : ∀ (l r : List Nat) (n : Int), (∀ c ∈ l, isW c = true) → tGo (l ++ r) n = tGo r (n + nl l)
  | [], r, n, _ => by rw [nl_nil, Int.add_zero]; rfl
  | c :: l, r, n, h => by
    rw [List.cons_append, tGo_ws (h c (.head _)), tSkip l r _ fun d hd => h d (.tail _ hd), nl_cons]
    congr 1
    unfold lnN; split <;> lia
theorem wsQ_w (m : Nat) : ∀ c ∈ wsQ m, isW c = true := by
  unfold wsQ
  split <;> intro c hc <;> simp at hc
  · subst hc; rfl
  · subst hc; rfl
  · rcases hc with rfl | rfl <;> rfl
theorem wsB_w (m : Nat) : ∃ c l, wsB m = c :: l ∧ isW c = true ∧ ∀ d ∈ l, isW d = true := by
  unfold wsB
  split
  · exact ⟨32, [], rfl, rfl, by simp⟩
  · exact ⟨10, [], rfl, rfl, by simp⟩
  · exact ⟨9, [10], rfl, rfl, by simp [isW]⟩
  · exact ⟨13, [10, 32], rfl, rfl, by simp [isW]⟩
noncomputable def wordOk (w : List Nat) : Prop := w ≠ [] ∧ ∀ s ∈ w, s ≠ 92 ∧ (s = 34 ∨ s = 10 ∨ isW s = false)
theorem psG_mem {st : Nat} {w : List Nat} {p : Bool × Nat} (h : p ∈ psG st w) : p.2 ∈ w ∧ p.1 = escG st p.2 := by
  unfold psG at h
  obtain ⟨k, hk, rfl⟩ := List.mem_map.mp h
  exact ⟨hk, rfl⟩
theorem qLem0 : ∀ (ps : List (Bool × Nat)) (tok : List Nat) (n : Int), (∀ p ∈ ps, p.1 = false → p.2 ≠ 34 ∧ p.2 ≠ 92) → qGo tok ((ps.map pc).flatten) n = (tok ++ ps.map Prod.snd, [], n + nl (ps.map Prod.snd))
  | [], tok, n, _ => by
    show qGo tok [] n = _
    simp [qGo, nl_nil]
  | (b, s) :: ps, tok, n, h => by
    have ih := qLem0 ps (tok ++ [s]) (lnN n s) fun p hp => h p (.tail _ hp)
    have e : qGo tok ((((b, s) :: ps).map pc).flatten) n = qGo (tok ++ [s]) ((ps.map pc).flatten) (lnN n s) := by
      cases b
      · obtain ⟨h1, h2⟩ := h (false, s) (.head _) rfl
        exact qGo_b h1 h2
      · exact qGo_e
    rw [e, ih, List.map_cons, nl_cons, List.append_assoc]
    refine trip ?_
    unfold lnN; split <;> lia
theorem bLem0 : ∀ (ps : List (Bool × Nat)) (tok : List Nat) (n : Int), (∀ p ∈ ps, p.1 = false → isW p.2 = false ∧ p.2 ≠ 92) → bGo tok ((ps.map pc).flatten) n = (tok ++ ps.map Prod.snd, [], n + nl (ps.map Prod.snd))
  | [], tok, n, _ => by
    show bGo tok [] n = _
    simp [bGo, nl_nil]
  | (b, s) :: ps, tok, n, h => by
    have ih := bLem0 ps (tok ++ [s]) (lnN n s) fun p hp => h p (.tail _ hp)
    have e : bGo tok ((((b, s) :: ps).map pc).flatten) n = bGo (tok ++ [s]) ((ps.map pc).flatten) (lnN n s) := by
      cases b
      · obtain ⟨h1, h2⟩ := h (false, s) (.head _) rfl
        exact bGo_b h1 h2
      · exact bGo_e
    rw [e, ih, List.map_cons, nl_cons, List.append_assoc]
    refine trip ?_
    unfold lnN; split <;> lia
noncomputable def inG (c e : Nat) : Nat := if c % 4 % 2 = 1 then 0 else min 1 (gapL c e).length
theorem gapL_w (c e : Nat) : ∀ d ∈ gapL c e, isW d = true := by
  unfold gapL
  split
  · split
    · exact wsQ_w _
    · obtain ⟨c0, l, e0, hc0, hl⟩ := wsB_w (c / 4 % 4)
      rw [e0]; intro d hd
      rcases List.mem_cons.mp hd with rfl | hd
      · exact hc0
      · exact hl d hd
  · simp
theorem one_read {w : List Nat} (c e : Nat) (hw : wordOk w) {R : List Nat} (hR : e ≠ 0 → R = []) (n : Int) :
    tGo (bodyL w c e ++ gapL c e ++ R) n = (w, (gapL c e).drop (inG c e) ++ R, n + nl (bodyL w c e ++ gapL c e ++ R) - nl ((gapL c e).drop (inG c e) ++ R)) := by
  unfold bodyL inG
  have hgw := gapL_w c e
  generalize hg : gapL c e = gp at hgw ⊢
  generalize hst : c % 4 = st at hg ⊢
  have hst4 : st < 4 := by rw [← hst]; exact Nat.mod_lt _ (by decide)
  rw [← psG_pc]
  have hesc : ∀ p ∈ psG st w, p.1 = false → ¬ 1 < st ∧ p.2 ≠ 34 ∧ (p.2 = 10 → st ≠ 0) ∧ p.2 ≠ 92 ∧ (p.2 = 10 ∨ isW p.2 = false) := by
    intro p hp hf
    obtain ⟨hm, e⟩ := psG_mem hp
    rw [e] at hf
    unfold escG at hf
    simp only [Bool.or_eq_false_iff, Bool.and_eq_false_iff, decide_eq_false_iff_not] at hf
    obtain ⟨⟨h1, h2⟩, h3⟩ := hf
    obtain ⟨h4, h5⟩ := hw.2 _ hm
    refine ⟨h1, h2, fun h => ?_, h4, ?_⟩
    · rcases h3 with h3 | h3
      · exact absurd h h3
      · exact h3
    · rcases h5 with h5 | h5
      · exact absurd h5 h2
      · exact h5
  have hsnd := psG_snd st w
  have hnl := nl_pcs (psG st w)
  by_cases h1 : st % 2 = 1
  · rw [if_pos h1, if_pos h1, List.drop_zero]
    have hq : ∀ p ∈ psG st w, p.1 = false → p.2 ≠ 34 ∧ p.2 ≠ 92 := fun p hp hf => let h := hesc p hp hf; ⟨h.2.1, h.2.2.2.1⟩
    generalize psG st w = ps at hq hsnd hnl ⊢
    by_cases h2 : e = 2
    · have hgn : gp = [] := by rw [← hg, gapL, if_neg (by lia)]
      rw [if_pos h2, hR (by (clear hgn hnl hsnd hq h1 hesc hst4 hst hgw hg hR hw; lia)), hgn]
      have e1 : [34] ++ (ps.map pc).flatten ++ [] ++ [] ++ [] = 34 :: (ps.map pc).flatten := by simp
      rw [e1, tGo_q, qLem0 ps [] n hq, hsnd, List.nil_append]
      refine trip ?_
      rw [nl_cons, hnl, hsnd, List.append_nil, nl_nil]
      unfold lnN; simp
    · rw [if_neg h2]
      have e1 : [34] ++ (ps.map pc).flatten ++ [34] ++ gp ++ R = 34 :: ((ps.map pc).flatten ++ 34 :: (gp ++ R)) := by simp
      rw [e1, tGo_q, qLem ps [] (gp ++ R) n hq, hsnd, List.nil_append]
      refine trip ?_
      rw [nl_cons, nl_app, nl_cons, hnl, hsnd]
      unfold lnN; simp; lia
  · rw [if_neg h1, if_neg h1]
    have hne : w ≠ [] := hw.1
    have hb : ∀ p ∈ psG st w, p.1 = false → (isW p.2 = false ∧ p.2 ≠ 92) ∧ p.2 ≠ 34 := by
      intro p hp hf
      obtain ⟨g1, g2, g3, g4, g5⟩ := hesc p hp hf
      refine ⟨⟨?_, g4⟩, g2⟩
      rcases g5 with h | h
      · exact absurd (show st = 0 by lia) (g3 h)
      · exact h
    generalize psG st w = ps at hb hsnd hnl ⊢
    match ps with
    | [] => exact absurd hsnd.symm hne
    | (b, s) :: ps =>
      have key : ∀ r, tGo ((((b, s) :: ps).map pc).flatten ++ r) n = bGo [s] ((ps.map pc).flatten ++ r) (lnN n s) := by
        intro r
        have e : (((b, s) :: ps).map pc).flatten ++ r = pc (b, s) ++ ((ps.map pc).flatten ++ r) := by simp
        rw [e]
        cases b
        · obtain ⟨⟨g1, g2⟩, g3⟩ := hb (false, s) (.head _) rfl
          exact tGo_b g1 g3 g2
        · exact tGo_e
      have hb' : ∀ p ∈ ps, p.1 = false → isW p.2 = false ∧ p.2 ≠ 92 := fun p hp hf => (hb p (.tail _ hp) hf).1
      rw [List.append_assoc, key]
      rw [← hsnd, List.map_cons]
      have hnl : nl ((((b, s) :: ps).map pc).flatten) = lnN (nl (ps.map Prod.snd)) s := by rw [hnl, List.map_cons, nl_cons]
      match hgp : gp with
      | [] =>
        have he0 : e ≠ 0 := fun h0 => by
          rw [gapL, if_pos h0, hst, if_neg h1] at hg
          obtain ⟨c0, l, e0, _⟩ := wsB_w (c / 4 % 4)
          rw [e0] at hg; cases hg
        rw [hR he0, List.append_nil, List.append_nil, bLem0 ps [s] _ hb']
        refine trip ?_
        rw [List.append_nil, hnl, List.drop_nil, List.append_nil, nl_nil]
        unfold lnN; split <;> lia
      | c0 :: l =>
        rw [List.cons_append, bLem ps [s] (l ++ R) _ c0 (hgw c0 (.head _)) hb']
        have e1 : min 1 (c0 :: l).length = 1 := by simp
        rw [e1, List.drop_succ_cons, List.drop_zero]
        refine trip ?_
        rw [nl_app, hnl, nl_cons]
        unfold lnN; split <;> split <;> lia
theorem letter_in : ∀ (k n : Nat), n ≤ k → ∀ c ∈ wordL n, 65 ≤ c ∧ c < 81
  | k, n, hk, c, hc => by
    by_cases h0 : n = 0
    · subst h0; rw [wordL, apL_zero] at hc; cases hc
    · match k, hk with
      | 0, hk => lia
      | k + 1, hk =>
        rw [wordL, apL_pos h0, List.map_append] at hc
        rcases List.mem_append.mp hc with hc | hc
        · exact letter_in k (n / 16) (by lia) c hc
        · simp only [List.map_cons, List.map_nil, List.mem_singleton] at hc
          subst hc
          have hm := Nat.mod_lt n (show 0 < 16 by decide)
          have e : (UInt8.ofNat (65 + n % 16)).toNat = 65 + n % 16 := by rw [UInt8.toNat_ofNat']; lia
          rw [e]; lia
theorem zw_ok (z : Int) : wordOk (zw z) := by
  refine ⟨by simp [zw, wz], fun s hs => ?_⟩
  rw [zw, wz] at hs
  rcases List.mem_cons.mp hs with rfl | hs
  · split <;> simp
  · have h := letter_in _ _ (Nat.le_refl _) s hs
    refine ⟨by lia, .inr (.inr ?_)⟩
    unfold isW
    simp; lia
end
noncomputable section
noncomputable def allM (ws : List (List Nat)) (cs : List Nat) (en : Nat) : List Nat := mkL ws cs en ++ [(txL ws cs en).flatten.length, (txL ws cs en).flatten.length]
noncomputable def posR (ws : List (List Nat)) (cs : List Nat) (en : Nat) : Nat → Nat
  | 0 => 0
  | k + 1 => (allM ws cs en).getD k 0
noncomputable def noteR (ws : List (List Nat)) (cs : List Nat) (en : Nat) (m : Nat) : Int × Int := ((m : Int), 1 + nl ((txL ws cs en).flatten.take m))
noncomputable def rdI (ws : List (List Nat)) (cs : List Nat) (en : Nat) (k : Nat) (z : RS) : Prop :=
  z = ⟨(txL ws cs en).flatten.drop (posR ws cs en k), 1 + nl ((txL ws cs en).flatten.take (posR ws cs en k)), ((allM ws cs en).take k).map (noteR ws cs en)⟩
section
variable {ws : List (List Nat)} {cs : List Nat} {en : Nat}
theorem txL_len : (txL ws cs en).length = ws.length := by simp [txL]
theorem mkL_len : (mkL ws cs en).length = ws.length := by simp [mkL]
theorem nl_split (l : List Nat) (p : Nat) : nl (l.take p) + nl (l.drop p) = nl l := by rw [← nl_app, List.take_append_drop]
noncomputable abbrev eK (ws : List (List Nat)) (en k : Nat) : Nat := lastL ws.length en k
theorem tx_cut {k : Nat} (h : k < ws.length) : (txL ws cs en).flatten = ((txL ws cs en).take k).flatten ++ (bodyL (ws.getD k []) (cs.getD k 0) (eK ws en k) ++ gapL (cs.getD k 0) (eK ws en k) ++ ((txL ws cs en).drop (k + 1)).flatten) := by
  have h' : k < (txL ws cs en).length := by rw [txL_len]; exact h
  have e : (txL ws cs en)[k] = bodyL (ws.getD k []) (cs.getD k 0) (eK ws en k) ++ gapL (cs.getD k 0) (eK ws en k) := by simp only [txL, List.getElem_map, List.getElem_range, oneL]
  rw [← e, ← List.flatten_cons, ← List.flatten_append, ← List.drop_eq_getElem_cons h', List.take_append_drop]
theorem mk_at {k : Nat} (h : k < ws.length) : (mkL ws cs en)[k]? = some (((txL ws cs en).take k).flatten.length + (bodyL (ws.getD k []) (cs.getD k 0) (eK ws en k)).length + inG (cs.getD k 0) (eK ws en k)) := by
  simp only [mkL, List.getElem?_map, List.getElem?_range h, Option.map_some]; rfl
theorem pos_at {k : Nat} (h : k < ws.length) : posR ws cs en (k + 1) = ((txL ws cs en).take k).flatten.length + (bodyL (ws.getD k []) (cs.getD k 0) (eK ws en k)).length + inG (cs.getD k 0) (eK ws en k) := by
  rw [posR, allM, List.getD_eq_getElem?_getD, List.getElem?_append_left (by rw [mkL_len]; exact h), mk_at h]; rfl
theorem inG_le (c e : Nat) : inG c e ≤ (gapL c e).length := by
  unfold inG; split
  · exact Nat.zero_le _
  · exact Nat.min_le_right _ _
theorem drop_at {k : Nat} (h : k < ws.length) : (txL ws cs en).flatten.drop (posR ws cs en (k + 1)) = (gapL (cs.getD k 0) (eK ws en k)).drop (inG (cs.getD k 0) (eK ws en k)) ++ ((txL ws cs en).drop (k + 1)).flatten := by
  have hl := inG_le (cs.getD k 0) (eK ws en k)
  rw [pos_at h, tx_cut h]
  generalize inG (cs.getD k 0) (eK ws en k) = x at hl ⊢
  generalize gapL (cs.getD k 0) (eK ws en k) = g at hl ⊢
  generalize bodyL (ws.getD k []) (cs.getD k 0) (eK ws en k) = b
  generalize ((txL ws cs en).take k).flatten = A
  generalize ((txL ws cs en).drop (k + 1)).flatten = R
  have e : A ++ (b ++ g ++ R) = (A ++ b ++ g.take x) ++ (g.drop x ++ R) := by
    have := List.take_append_drop x g
    have e2 : A ++ (b ++ (g.take x ++ g.drop x) ++ R) = (A ++ b ++ g.take x) ++ (g.drop x ++ R) := by simp only [List.append_assoc]
    rw [this] at e2; exact e2
  rw [e]
  exact List.drop_left' (by simp [List.length_take, Nat.min_eq_left hl]; exact Eq.symm (Nat.add_assoc A.length b.length x))
theorem lead_at {k : Nat} (h : k ≤ ws.length) : ∃ lead, (∀ d ∈ lead, isW d = true) ∧ (txL ws cs en).flatten.drop (posR ws cs en k) = lead ++ ((txL ws cs en).drop k).flatten := by
  match k with
  | 0 => exact ⟨[], by simp, by simp [posR]⟩
  | k + 1 => exact ⟨_, fun d hd => gapL_w _ _ d (List.mem_of_mem_drop hd), drop_at (by assumption)⟩
theorem pos_le (k : Nat) : posR ws cs en k ≤ (txL ws cs en).flatten.length := by
  match k with
  | 0 => exact Nat.zero_le _
  | k + 1 =>
    by_cases h : k < ws.length
    · rw [pos_at h, tx_cut h]
      have := inG_le (cs.getD k 0) (eK ws en k)
      simp only [List.length_append]; lia
    · rw [posR, allM, List.getD_eq_getElem?_getD, List.getElem?_append_right (by rw [mkL_len]; exact Nat.le_of_not_lt h), mkL_len]
      match k - ws.length with
      | 0 => exact Nat.le_refl _
      | 1 => exact Nat.le_refl _
      | n + 2 => exact Nat.zero_le _
theorem pos_end {k : Nat} (h1 : ws.length ≤ k) (h2 : k ≤ ws.length + 1) : posR ws cs en (k + 1) = (txL ws cs en).flatten.length := by
  rw [posR, allM, List.getD_eq_getElem?_getD, List.getElem?_append_right (by rw [mkL_len]; omega), mkL_len]
  obtain h | h : k - ws.length = 0 ∨ k - ws.length = 1 := by lia
  · rw [h]; rfl
  · rw [h]; rfl
theorem allM_take {k : Nat} (h : k ≤ ws.length + 1) : (allM ws cs en).take (k + 1) = (allM ws cs en).take k ++ [posR ws cs en (k + 1)] := by
  have hl : k < (allM ws cs en).length := by rw [allM, List.length_append, mkL_len]; simp; exact Nat.lt_succ_of_le h
  rw [List.take_succ_eq_append_getElem hl, posR, List.getD_eq_getElem?_getD, List.getElem?_eq_getElem hl]; rfl
theorem rd_step (hw : ∀ w ∈ ws, wordOk w) (hz : ws.length ≤ 30) (hl : ∀ w ∈ ws, w.length ≤ 200) {k : Nat} (hk : k ≤ ws.length + 1) :
    tGo ((txL ws cs en).flatten.drop (posR ws cs en k)) (1 + nl ((txL ws cs en).flatten.take (posR ws cs en k))) = (ws.getD k [], (txL ws cs en).flatten.drop (posR ws cs en (k + 1)), 1 + nl ((txL ws cs en).flatten.take (posR ws cs en (k + 1)))) := by
  have s1 := nl_split (txL ws cs en).flatten (posR ws cs en k)
  have s2 := nl_split (txL ws cs en).flatten (posR ws cs en (k + 1))
  by_cases h : k < ws.length
  · obtain ⟨lead, hld, el⟩ := lead_at (ws := ws) (cs := cs) (en := en) (k := k) (by exact Nat.le_of_succ_le h)
    have e := tx_cut (cs := cs) (en := en) h
    have e2 : ((txL ws cs en).drop k).flatten = bodyL (ws.getD k []) (cs.getD k 0) (eK ws en k) ++ gapL (cs.getD k 0) (eK ws en k) ++ ((txL ws cs en).drop (k + 1)).flatten := by
      have e3 : (txL ws cs en).flatten = ((txL ws cs en).take k).flatten ++ ((txL ws cs en).drop k).flatten := by rw [← List.flatten_append, List.take_append_drop]
      rw [e3] at e
      exact List.append_cancel_left e
    have hwk : ws.getD k [] ∈ ws := by rw [List.getD_eq_getElem?_getD, List.getElem?_eq_getElem h]; exact List.getElem_mem _
    have hR : eK ws en k ≠ 0 → ((txL ws cs en).drop (k + 1)).flatten = [] := fun h0 => by
      have : k + 1 = ws.length := by
        refine Decidable.by_contra fun h1 => h0 ?_
        unfold eK lastL; rw [if_neg h1]
      rw [this, List.drop_eq_nil_of_le (by rw [txL_len]; exact Nat.le_refl _)]; rfl
    rw [el, tSkip lead _ _ hld, e2, one_read _ _ (hw _ hwk) hR, ← drop_at h]
    refine trip ?_
    rw [el, nl_app, e2] at s1
    lia
  · obtain ⟨lead, hld, el⟩ : ∃ lead, (∀ d ∈ lead, isW d = true) ∧ (txL ws cs en).flatten.drop (posR ws cs en k) = lead ++ [] := by
      by_cases h1 : k = ws.length
      · obtain ⟨lead, h1', el⟩ := lead_at (ws := ws) (cs := cs) (en := en) (k := k) (by exact Nat.le_of_eq h1)
        refine ⟨lead, h1', ?_⟩
        rw [el, List.drop_eq_nil_of_le (by rw [txL_len]; exact Nat.le_of_not_lt h)]; rfl
      · obtain ⟨j, rfl⟩ : ∃ j, k = j + 1 := ⟨k - 1, by (clear s2 s1 hl hz hw; lia)⟩
        exact ⟨[], by simp, by rw [pos_end (by lia) (by exact Nat.le_of_succ_le hk), List.drop_length]; rfl⟩
    have e0 : ws.getD k [] = [] := by rw [List.getD_eq_getElem?_getD, List.getElem?_eq_none (by exact Nat.le_of_not_lt h)]; rfl
    rw [el, tSkip lead _ _ hld, pos_end (by exact Nat.le_of_not_lt h) hk, List.drop_length, List.take_length, e0]
    show ([], [], _) = _
    refine trip ?_
    rw [el, nl_app, nl_nil] at s1
    lia
end
theorem zws_get {L : List Int} {k : Nat} : (zws L).getD k [] = owW L[k]? := by
  rw [List.getD_eq_getElem?_getD, List.getElem?_map]
  cases L[k]? <;> rfl
theorem rd_src {L : List Int} {cs : List Nat} {en : Nat} (hz : L.length ≤ 30) (hl : ∀ t ∈ L, t.natAbs < 16 ^ 100) (k : Nat) (z : RS) (hk : k ≤ L.length + 1) (h : rdI (zws L) cs en k z) :
    ∃ z', St0 (txL (zws L) cs en).flatten z L[k]? z' ∧ rdI (zws L) cs en (k + 1) z' := by
  have hlw : ∀ w ∈ zws L, w.length ≤ 200 := fun w hw => by
    obtain ⟨t, ht, rfl⟩ := List.mem_map.mp hw
    exact Nat.le_trans (zw_len (hl t ht)) (by decide)
  have hwo : ∀ w ∈ zws L, wordOk w := fun w hw => by
    obtain ⟨t, ht, rfl⟩ := List.mem_map.mp hw
    exact zw_ok t
  have hln : (zws L).length = L.length := by simp
  have hs := rd_step (cs := cs) (en := en) hwo (by exact le_of_eq_of_le hln hz) hlw (k := k) (by exact le_of_le_of_eq hk (congrFun (congrArg HAdd.hAdd (id (Eq.symm hln))) 1))
  have hT := txL_le (cs := cs) (en := en) hlw (zws L).length
  rw [List.take_of_length_le (by rw [txL_len]; exact Nat.le_refl _)] at hT
  have hT2 : (txL (zws L) cs en).flatten.length ≤ 80000 := by lia
  have hp := pos_le (ws := zws L) (cs := cs) (en := en) (k + 1)
  have ht := allM_take (ws := zws L) (cs := cs) (en := en) (k := k) (by exact le_of_le_of_eq hk (congrFun (congrArg HAdd.hAdd (id (Eq.symm hln))) 1))
  rw [rdI] at h
  subst h
  rw [zws_get] at hs
  refine ⟨_, ⟨_, _, hs, rfl, ?_, ?_, hT2, ?_⟩, ?_⟩
  · dsimp only; rw [List.length_drop]; lia
  · rw [List.length_drop]; lia
  · dsimp only; rw [List.length_map, List.length_take]; lia
  · rw [rdI, ht, List.map_append, List.map_singleton, noteR]
    have e : (((txL (zws L) cs en).flatten.length : Nat) : Int) - (((txL (zws L) cs en).flatten.drop (posR (zws L) cs en (k + 1))).length : Nat) = ((posR (zws L) cs en (k + 1) : Nat) : Int) := by rw [List.length_drop]; omega
    rw [e]
end
noncomputable section
structure TermsOk (L : List Int) : Prop where
  ne : L ≠ []
  len : L.length ≤ 4
  sm : ∀ t ∈ L, t.natAbs < 2 ^ 4
  pos : ∀ t ∈ L.tail, 1 ≤ t
noncomputable abbrev midF (a b c d : Int) (L : List Int) : List Int := eu (FV a b c d (fracF L))
theorem TermsOk.frac {L : List Int} (h : TermsOk L) : Lt (2 ^ 21) (fracF L) := by
  have f := fracF_lt (T := 4) (l := L) h.sm
  have hl := h.len
  have hp : 2 ^ ((4 + 1) * L.length + 1) ≤ 2 ^ 21 := Nat.pow_le_pow_right (by decide) (by lia)
  exact ⟨Nat.lt_of_lt_of_le f.1 hp, Nat.lt_of_lt_of_le f.2 hp⟩
theorem TermsOk.top {a b c d : Int} {L : List Int} (h : TermsOk L) (ha : a.natAbs < 6) (hb : b.natAbs < 6) (hc : c.natAbs < 6) (hd : d.natAbs < 6) : Lt (2 ^ 25) (FV a b c d (fracF L)) :=
  (FV_lt ha hb hc hd h.frac).mono (by decide)
theorem TermsOk.low {L : List Int} (h : TermsOk L) : 1 ≤ (fracF L).2 := by
  obtain ⟨t, ts, rfl⟩ : ∃ t ts, L = t :: ts := by cases L with | nil => exact absurd rfl h.ne | cons t ts => exact ⟨t, ts, rfl⟩
  exact (pos_frac (ts := ts) h.pos).1
theorem mid_low {x : Vc} {B : Nat} (hB : 0 < B) (h : Lt B x) : (fracF (eu x)).2.natAbs < B := by
  obtain ⟨g, hg⟩ := frac_eu _ x (Nat.le_refl _)
  have e := congrArg Prod.snd hg
  simp only [sc] at e
  by_cases h0 : g = 0
  · have e1 : x.2 = 0 := by rw [e, h0, Int.zero_mul]
    have e2 : x = (x.1, 0) := Prod.ext rfl e1
    rw [e2, eu_zero]; simpa [fracF] using hB
  · have := congrArg Int.natAbs e
    rw [Int.natAbs_mul] at this
    have h1 : (fracF (eu x)).2.natAbs ≤ g.natAbs * (fracF (eu x)).2.natAbs := Nat.le_mul_of_pos_left _ (Int.natAbs_pos.mpr h0)
    have := h.2; lia
theorem ok_one {a b c d : Int} {L : List Int} (h : TermsOk L) (ha : a.natAbs < 6) (hb : b.natAbs < 6) (hc : c.natAbs < 6) (hd : d.natAbs < 6) : LOk a b c d L :=
  lok h.pos (fun t ht => Nat.lt_trans (h.sm t ht) (by decide)) (Nat.lt_trans h.frac.2 (by decide)) (Nat.le_trans h.len (by decide)) ha hb hc hd
theorem mid_len {a b c d : Int} {L : List Int} (h : TermsOk L) (ha : a.natAbs < 6) (hb : b.natAbs < 6) (hc : c.natAbs < 6) (hd : d.natAbs < 6) : (midF a b c d L).length ≤ 50 :=
  euc_len 25 _ _ (h.top ha hb hc hd).2
theorem mid_sm {a b c d : Int} {L : List Int} (h : TermsOk L) (ha : a.natAbs < 6) (hb : b.natAbs < 6) (hc : c.natAbs < 6) (hd : d.natAbs < 6) : ∀ t ∈ midF a b c d L, t.natAbs < 2 ^ 25 :=
  eu_lt _ _ (Nat.le_refl _) (h.top ha hb hc hd)
theorem ok_two {a b c d : Int} {L : List Int} (h : TermsOk L) (ha : a.natAbs < 6) (hb : b.natAbs < 6) (hc : c.natAbs < 6) (hd : d.natAbs < 6) : LOk d (-b) (-c) a (midF a b c d L) :=
  lok (eu_pos _) (fun t ht => Nat.lt_trans (mid_sm h ha hb hc hd t ht) (by decide)) (mid_low (by decide) ((h.top ha hb hc hd).mono (by decide))) (Nat.le_trans (mid_len h ha hb hc hd) (by decide)) hd (by rw [Int.natAbs_neg]; exact hb) (by rw [Int.natAbs_neg]; exact hc) ha
theorem row_eq {α : Type} (l : List α) : ∀ (n : Nat), l.length ≤ n → (List.range' 0 n).map (fun i => l[i]?) = l.map some ++ List.replicate (n - l.length) none := fun n h => by
  refine List.ext_getElem? fun i => ?_
  rw [List.getElem?_map]
  by_cases hi : i < n
  · rw [List.getElem?_range' (by omega)]
    by_cases hl : i < l.length
    · rw [List.getElem?_append_left (by rw [List.length_map]; exact hl)]
      simp [List.getElem?_eq_getElem hl]
    · rw [List.getElem?_append_right (by rw [List.length_map]; exact Nat.le_of_not_lt hl), List.length_map, List.getElem?_replicate_of_lt (by omega)]
      simp; exact Nat.le_of_not_lt hl
  · rw [List.getElem?_eq_none (by simp; exact Nat.le_of_not_lt hi), List.getElem?_eq_none (by simp; lia)]; rfl
theorem due_len : ∀ l : List Int, (dueF l).length ≤ l.length
  | [] => Nat.le_refl _
  | [_] => Nat.le_refl _
  | [t, u] => by unfold dueF; split <;> simp
  | t :: u :: x :: ts => by
    have := due_len (u :: x :: ts)
    simp only [dueF, List.length_cons] at this ⊢; exact Nat.add_le_add_right this 1
theorem run_ok {a b c d : Int} {L : List Int} {cs : List Nat} {en : Nat} (h : TermsOk L) (ha : a.natAbs < 6) (hb : b.natAbs < 6) (hc : c.natAbs < 6) (hd : d.natAbs < 6) (hdet : a * d ≠ b * c) :
    ∃ (N : Mc (Mc RS)) (mb : Mc RS) (zf : RS) (ws : List (Option Int)) (w1 w2 : Option Int), ws.length = 9 ∧
      Ch (StM (StM (St0 (txL (zws L) cs en).flatten))) ⟨d, -b, -c, a, 0, false, [], [], [], ⟨a, b, c, d, 0, false, [], [], [], ⟨(txL (zws L) cs en).flatten, 1, []⟩⟩⟩ ws N ∧ StM (St0 (txL (zws L) cs en).flatten) N.z w1 mb ∧ St0 (txL (zws L) cs en).flatten mb.z w2 zf ∧
      mb.hd = L ∧ N.hd = midF a b c d L ∧ mb.ak = (List.range (L.length + 1)).map (cntF a b c d L) ∧ N.ak = (List.range ((midF a b c d L).length + 1)).map (cntF d (-b) (-c) a (midF a b c d L)) ∧
      zf.nt = (allM (zws L) cs en).map (noteR (zws L) cs en) ∧ ws ++ [w1, w2] = (dueF L).map some ++ List.replicate (11 - (dueF L).length) none := by
  have O1 := ok_one h ha hb hc hd
  have O2 := ok_two h ha hb hc hd
  have hl := h.len
  have src1 : ∀ k z, k ≤ L.length → rdI (zws L) cs en k z → ∃ z', St0 (txL (zws L) cs en).flatten z L[k]? z' ∧ rdI (zws L) cs en (k + 1) z' := fun k z hk hz => rd_src (by lia) (fun t ht => Nat.lt_trans (h.sm t ht) (by decide)) k z (by exact Nat.le_add_right_of_le hk) hz
  have src2 : ∀ k z, k ≤ (midF a b c d L).length → Inv a b c d L (rdI (zws L) cs en) k z → ∃ z', StM (St0 (txL (zws L) cs en).flatten) z (midF a b c d L)[k]? z' ∧ Inv a b c d L (rdI (zws L) cs en) (k + 1) z' := fun k z zz hz => inv_step O1 src1 hz
  have hdue : eu (FV d (-b) (-c) a (fracF (midF a b c d L))) = dueF L := by
    have hlow := h.low
    rw [back_eu hdet (by exact Ne.symm (Int.ne_of_lt hlow))]
    obtain ⟨t, ts, rfl⟩ : ∃ t ts, L = t :: ts := by cases L with | nil => exact absurd rfl h.ne | cons t ts => exact ⟨t, ts, rfl⟩
    exact eu_frac h.pos
  have hdl := due_len L
  have i1 : Inv a b c d L (rdI (zws L) cs en) 0 (⟨a, b, c, d, 0, false, [], [], [], ⟨(txL (zws L) cs en).flatten, 1, []⟩⟩ : Mc RS) := Inv.first (by simp [rdI, posR, nl]) rfl rfl rfl rfl rfl rfl rfl rfl rfl
  have i2 : Inv d (-b) (-c) a (midF a b c d L) (Inv a b c d L (rdI (zws L) cs en)) 0 (⟨d, -b, -c, a, 0, false, [], [], [], ⟨a, b, c, d, 0, false, [], [], [], ⟨(txL (zws L) cs en).flatten, 1, []⟩⟩⟩ : Mc (Mc RS)) := Inv.first i1 rfl rfl rfl rfl rfl rfl rfl rfl rfl
  obtain ⟨N, hN, iN⟩ := inv_chain O2 src2 9 0 _ i2
  have F2 := iN.done O2 (by rw [hdue]; lia)
  obtain ⟨mb, s1, im⟩ := inv_step O1 src1 F2.z
  have F1 := im.done O1 (by show (midF a b c d L).length < _; lia)
  obtain ⟨zf, s2, hf⟩ := rd_src (L := L) (cs := cs) (en := en) (by lia) (fun t ht => Nat.lt_trans (h.sm t ht) (by decide)) (L.length + 1) mb.z (Nat.le_refl _) F1.z
  rw [List.getElem?_eq_none (show (midF a b c d L).length ≤ _ by exact Nat.le_add_right (Mine.Internal.midF a b c d L).length 1)] at s1
  rw [List.getElem?_eq_none (by exact Nat.le_add_right L.length 1)] at s2
  refine ⟨N, mb, zf, _, none, none, by simp, hN, s1, s2, F1.hd, F2.hd, F1.ak, F2.ak, ?_, ?_⟩
  · rw [rdI] at hf
    rw [hf]
    dsimp only
    rw [List.take_of_length_le (by rw [allM, List.length_append, mkL_len]; simp)]
  · rw [hdue, row_eq _ 9 (by lia)]
    have e : ([none, none] : List (Option Int)) = List.replicate 2 none := rfl
    rw [List.append_assoc, e, List.replicate_append_replicate]
    congr 2; lia
end
noncomputable section
noncomputable def LB : List Stmt := cbody (nth PW.main.body 25)
noncomputable abbrev lawL : List Str := ["script", "one", "cells", "terms", "a", "b", "c", "d", "there", "back", "term", "marks", "asked", "heard", "notes", "above", "below", "up", "down", "middle", "due", "rows", "counts", "pairs"]
noncomputable abbrev lawG : List Str := ["range", "_law_text", "_law_run", "_law_fraction", "_law_euclid", "len", "bytes", "_int2digits", "abs", "Int2AP"]
structure TabsL (a : Ad) (H : AH) : Prop where
  i2d : (a.pI2d, AO.tab "_int2digits.<locals>.inner") ∈ H
  d2i : (a.pD2i, AO.tab "_digits2int.<locals>.inner") ∈ H
  st : (a.pStream, AO.tab "_law_stream.<locals>.<lambda>") ∈ H
  ma : (a.pMachine, AO.tab "_law_machine.<locals>.<lambda>") ∈ H
  ru : (a.pRun, AO.tab "_law_run.<locals>.<lambda>") ∈ H
theorem TabsL.to {a : Ad} {H H' : AH} (h : TabsL a H) (k : ∀ p ∈ H, p ∈ H') : TabsL a H' := ⟨k _ h.i2d, k _ h.d2i, k _ h.st, k _ h.ma, k _ h.ru⟩
theorem TabsL.tl {a : Ad} {H : AH} {p : Addr × AO} (h : TabsL a H) : TabsL a (p :: H) := h.to fun zz h => .tail _ h
theorem TabsL.tabs {a : Ad} {H : AH} (h : TabsL a H) : Tabs a H := ⟨h.i2d, h.d2i⟩
noncomputable def QL (a : Ad) : Fl → AH → Prop := fun fl H₁ => ∃ H₂, Sub H₂ H₁ ∧ fl.val = .bool true ∧ TabsL a H₂
theorem QL.mk {a : Ad} {H₁ : AH} (T : TabsL a H₁) : QL a (.ret (.bool true)) H₁ := ⟨H₁, .refl _, rfl, T⟩
noncomputable abbrev tup2 (p : Int × Int) : V := .tup [.int p.1, .int p.2]
noncomputable def divV (p : Int × Int) : V := if p.2 = 0 then .str (mkS []) else .tup [.int (p.1.fdiv p.2), .int (p.1.fmod p.2)]
noncomputable def divD (p : Int × Int) : PyData := if p.2 = 0 then dS [] else .tuple [.int (p.1.fdiv p.2), .int (p.1.fmod p.2)]
theorem divD_rel {H : AH} (p : Int × Int) : DRel H (divD p) (divV p) := by
  unfold divD divV
  split
  · exact dr_str
  · exact dr_tup (ds_cons dr_int (ds_cons dr_int ds_nil))
theorem divD_eqv (p : Int × Int) : PyData.eqv (divD p) (divD p) = true := by
  unfold divD
  split
  · exact eqv_str_self
  · exact eqv_tup_self fun d hd => by
      simp only [List.mem_cons, List.not_mem_nil, or_false] at hd
      rcases hd with rfl | rfl <;> exact eqv_int_self
theorem divD_ok (p : Int × Int) : DOk 1 (divD p) := by
  unfold divD
  split
  · exact dok_str (List.forall_mem_nil _)
  · exact dok_tup fun d hd => by
      simp only [List.mem_cons, List.not_mem_nil, or_false] at hd
      rcases hd with rfl | rfl <;> exact dok_int
theorem ds_map {α : Type} {H : AH} {f : α → PyData} {g : α → V} (h : ∀ x, DRel H (f x) (g x)) : ∀ l : List α, DsRel H (l.map f) (l.map g)
  | [] => ds_nil
  | x :: l => ds_cons (h x) (ds_map h l)
section
variable {C : Cfg} {a : Ad} {A : Around} {R : AH} {env : Env} {L cF cW cT cN : Addr}
theorem part19 {v0 v1 v2 v3 v4 v5 v6 v7 v8 v9 v10 v11 v12 v13 v14 v15 v16 v17 v18 v19 v20 v21 v22 : Option V} {pl : Addr} {ps : List (Int × Int)} (W : W3 C a) (hr : Room A 140) (hfr : A.frames = some [env]) (hfL : env.frame = some L) (hkd : env.scope.kind ≠ .module)
    (FE : FEnv env L lawL [("four", cF), ("row", cW), ("text", cT), ("number", cN)] lawG) (hp : (pl, AO.list (ps.map tup2)) ∈ R) (hb : ∀ p ∈ ps, p.1.natAbs < 2 ^ 30 ∧ p.2.natAbs < 2 ^ 30) (hz : ps.length ≤ 100) (hT : TabsL a R) :
    WPS C A env (LB.drop 19) (QL a) ((L, .ns lawL [v0, v1, v2, v3, v4, v5, v6, v7, v8, v9, v10, v11, v12, v13, v14, v15, v16, v17, v18, v19, v20, v21, v22, some (.ref pl)]) :: R) := by
  have G := W.G
  have hA := hr.hd
  have hS : ∀ vals, Stk [env] ((L, .ns lawL vals) :: R) := fun vals => Stk.cons (fun zz h => nomatch h) hkd hfL
  refine wps_cons ?_
  refine wp1_Return ?_
  refine wp_Compare ?_
  have FE0 := FE
  refine wp_LC (ln' := ["one", "two"]) (gn' := ["_law_divided"]) (fs := []) (cs := []) FE (by kernel_rfl) (List.forall_mem_nil _) ?_
  refine wpi_value ?_
  repeat walk_at "s"
  refine pi_list hA (.tail _ hp) ?_
  intro b c cenv FE
  replace FE : FEnv cenv c ["one", "two"] [] ["_law_divided"] := FE
  refine turns_map2 (xs := ps.map tup2) (ys := ps.map divV) FE hA (by simp) (by rw [List.length_map]; lia) (fun i x h => ?_) (fun i x os acc h => listItem_some (.tail _ (.tail _ (.tail _ hp))) h) (fun os acc => listItem_none (.tail _ (.tail _ (.tail _ hp))) (Nat.le_refl _)) (fun i u w v acc hx hv => ?_) fun os => ?_
  · simp only [List.getElem?_map, Option.map_eq_some_iff] at h
    obtain ⟨p, hp, rfl⟩ := h
    exact ⟨_, _, rfl⟩
  · simp only [List.getElem?_map, Option.map_eq_some_iff] at hx hv
    obtain ⟨p, hp, e⟩ := hx
    cases e
    rw [hp] at hv
    simp only [Option.some.injEq, exists_eq_left'] at hv
    subst hv
    obtain ⟨b1, b2⟩ := hb p (List.mem_of_getElem? hp)
    repeat walk_at "s"
    refine sp_divided W (hr.mono (by decide)) hfr ((hS _).to fun p h => .tail _ (.tail _ h)) (hT.tl.tl.tl).tabs (Nat.lt_trans b1 (Nat.pow_lt_pow_right (by decide) (by decide))) (Nat.lt_trans b2 (Nat.pow_lt_pow_right (by decide) (by decide))) ?_
    refine ⟨?_, .refl _⟩
    unfold divV; rw [mkS_nil]
  · refine ⟨_, _, .head, ?_⟩
    have FE := FE0
    refine wp_LC (ln' := ["one", "two"]) (gn' := []) (fs := []) (cs := []) FE (by kernel_rfl) (List.forall_mem_nil _) ?_
    refine wpi_value ?_
    repeat walk_at "s"
    refine pi_list hA (.tail _ (.tail _ hp)) ?_
    intro b2 c2 cenv2 FE
    replace FE : FEnv cenv2 c2 ["one", "two"] [] [] := FE
    refine turns_map2 (xs := ps.map tup2) (ys := ps.map divV) FE hA (by simp) (by rw [List.length_map]; lia) (fun i x h => ?_) (fun i x os acc h => listItem_some (.tail _ (.tail _ (.tail _ (.tail _ hp)))) h) (fun os acc => listItem_none (.tail _ (.tail _ (.tail _ (.tail _ hp)))) (Nat.le_refl _)) (fun i u w v acc hx hv => ?_) fun os => ?_
    · simp only [List.getElem?_map, Option.map_eq_some_iff] at h
      obtain ⟨p, hp, rfl⟩ := h
      exact ⟨_, _, rfl⟩
    · simp only [List.getElem?_map, Option.map_eq_some_iff] at hx hv
      obtain ⟨p, hp, e⟩ := hx
      cases e
      rw [hp] at hv
      simp only [Option.some.injEq, exists_eq_left'] at hv
      subst hv
      obtain ⟨b1, b2⟩ := hb p (List.mem_of_getElem? hp)
      repeat walk_at "s"
      refine ⟨fun h => ?_, fun h => ?_⟩
      · have h0 : p.2 ≠ 0 := by simpa using h
        repeat walk_at "s"
        refine op_floordiv_int h0 (PyProof.noPylong_small b2) ?_
        repeat walk_at "s"
        refine op_mod_int h0 ?_
        repeat walk_at "s"
        exact ⟨by rw [divV, if_neg h0], .refl _⟩
      · have h0 : p.2 = 0 := by simpa using h
        repeat walk_at "s"
        exact ⟨by rw [divV, if_pos h0, mkS_nil], .refl _⟩
    · refine ⟨_, _, .head, ?_⟩
      refine op_eq_data (d := .list (ps.map divD)) (e := .list (ps.map divD)) (dr_list (.tail _ (.head _)) (ds_map divD_rel ps)) (dr_list (.head _) (ds_map divD_rel ps)) ?_ ?_ hr.line ?_
      · exact (dok_list (n := 1) fun d hd => by obtain ⟨p, _, rfl⟩ := List.mem_map.mp hd; exact divD_ok p).shaped (by decide)
      · exact (dok_list (n := 1) fun d hd => by obtain ⟨p, _, rfl⟩ := List.mem_map.mp hd; exact divD_ok p).shaped (by decide)
      rw [eqv_list_self fun d hd => by obtain ⟨p, _, rfl⟩ := List.mem_map.mp hd; exact divD_eqv p]
      exact QL.mk hT.tl.tl.tl
end
end
noncomputable section
theorem byte_word (n : Nat) : (byteArr ((digs n 4 (ndig n 4)).map fun (d : Nat) => (65 : Int) + d).reverse).toList = apL n := by
  have e : ((digs n 4 (ndig n 4)).map fun (d : Nat) => (65 : Int) + d).reverse = (wordL n).map Int.ofNat := by
    have h := own_word n
    rw [← ownL_range] at h
    rw [← h, List.map_reverse, List.map_map, digs, List.map_map, ndig]
    have e1 : Builtin.Int.intBits (n : Int) + 4 - 1 = Builtin.Int.intBits (n : Int) + 3 := by exact Nat.add_succ_sub_one (PySem.Builtin.Int.intBits ↑n) 3
    rw [e1]
    congr 1
  rw [e]
  unfold byteArr
  rw [List.map_map, wordL, List.map_map]
  show List.map _ (apL n) = _
  refine (List.map_congr_left (g := id) fun u zz => ?_).trans (List.map_id _)
  show (((u.toNat : Nat) : Int).toNat).toUInt8 = u
  rw [Int.toNat_natCast]; exact UInt8.ofNat_toNat
inductive TmI (vs us : List (Option V)) (L nl : Addr) (xs : List Int) (R : AH) (i : Nat) (H₁ : AH) : Prop
  | mk (o : Option V) (hi : i ≤ xs.length) (e : H₁ = (nl, .list (intVs xs)) :: (L, .ns lawL (vs ++ o :: us)) :: R) : TmI vs us L nl xs R i H₁
section
variable {C : Cfg} {a : Ad} {A : Around} {R : AH} {env : Env} {L cF cW cT cN : Addr}
theorem part18 {v0 v1 v2 v3 v4 v5 v6 v7 v8 v9 v10 v11 v12 v13 v14 v15 v16 v19 v20 v21 v22 v23 : Option V} {up dn : Int} (W : W3 C a) (hr : Room A 140) (hfr : A.frames = some [env]) (hfL : env.frame = some L) (hkd : env.scope.kind ≠ .module)
    (FE : FEnv env L lawL [("four", cF), ("row", cW), ("text", cT), ("number", cN)] lawG) (h1 : up.natAbs < 2 ^ 30) (h2 : dn.natAbs < 2 ^ 30) (hT : TabsL a R) :
    WPS C A env (LB.drop 18) (QL a) ((L, .ns lawL [v0, v1, v2, v3, v4, v5, v6, v7, v8, v9, v10, v11, v12, v13, v14, v15, v16, some (.int up), some (.int dn), v19, v20, v21, v22, v23]) :: R) := by
  have G := W.G
  have hA := hr.hd
  refine wps_cons ?_
  repeat walk_at "s"
  intro pl
  refine store_local FE (by walk_at "upd") (by walk_at "put") ?_
  refine wps_next ?_
  refine WP.sub (H' := (L, _) :: (pl, _) :: R) (.pick (.tail .head) (.pick .head (.refl _))) ?_
  have n1 : (-up).natAbs < 2 ^ 30 := (Int.natAbs_neg up).symm ▸ h1
  have n2 : (-dn).natAbs < 2 ^ 30 := (Int.natAbs_neg dn).symm ▸ h2
  exact part19 (ps := [(up, dn), (-up, dn), (up, -dn), (-up, -dn), (up, 0)]) W hr hfr hfL hkd FE (.head _) (List.forall_mem_cons.mpr ⟨⟨h1, h2⟩, List.forall_mem_cons.mpr ⟨⟨n1, h2⟩, List.forall_mem_cons.mpr ⟨⟨h1, n2⟩, List.forall_mem_cons.mpr ⟨⟨n1, n2⟩, List.forall_mem_cons.mpr ⟨⟨h1, (by decide : (0 : Int).natAbs < 2 ^ 30)⟩, List.forall_mem_nil _⟩⟩⟩⟩⟩) (Nat.le_of_ble_eq_true rfl) hT.tl
theorem part17 {v0 v1 v2 v4 v5 v6 v7 v8 v9 v10 v11 v12 v13 v14 v15 v16 v20 v21 v22 v23 : Option V} {up dn : Int} {tl ml : Addr} {xs ys : List Int} (W : W3 C a) (hr : Room A 140) (hfr : A.frames = some [env]) (hfL : env.frame = some L) (hkd : env.scope.kind ≠ .module)
    (FE : FEnv env L lawL [("four", cF), ("row", cW), ("text", cT), ("number", cN)] lawG) (h1 : up.natAbs < 2 ^ 30) (h2 : dn.natAbs < 2 ^ 30) (hx : (tl, AO.list (intVs xs)) ∈ R) (hy : (ml, AO.list (intVs ys)) ∈ R)
    (bx : ∀ t ∈ xs ++ ys, t.natAbs < 2 ^ 30) (hz : xs.length + ys.length ≤ 1000) (hT : TabsL a R) :
    WPS C A env (LB.drop 17) (QL a) ((L, .ns lawL [v0, v1, v2, some (.ref tl), v4, v5, v6, v7, v8, v9, v10, v11, v12, v13, v14, v15, v16, some (.int up), some (.int dn), some (.ref ml), v20, v21, v22, v23]) :: R) := by
  have G := W.G
  have hA := hr.hd
  refine wps_cons ?_
  refine wp1_For (wpi_value ?_)
  repeat walk_at "s"
  refine op_add_list (.tail _ hx) (.tail _ hy) (by rw [List.length_map, List.length_map]; lia) ?_
  intro nl
  have e : intVs xs ++ intVs ys = intVs (xs ++ ys) := by rw [intVs, intVs, intVs, List.map_append]
  have hz2 : (xs ++ ys).length ≤ 1000 := by rw [List.length_append]; exact hz
  rw [e]
  generalize xs ++ ys = zs at bx hz2 ⊢
  refine pi_list hA (.head _) ?_
  refine ⟨TmI [v0, v1, v2, some (.ref tl), v4, v5, v6, v7, v8, v9] [v11, v12, v13, v14, v15, v16, some (.int up), some (.int dn), some (.ref ml), v20, v21, v22, v23] L nl zs R, zs.length, ⟨_, Nat.zero_le _, rfl⟩, ?_⟩
  rintro i H₁ ⟨o, hi, rfl⟩
  by_cases hlt : i < zs.length
  · left
    refine ⟨.int zs[i], hlt, listItem_some (.head _) (by rw [List.getElem?_map, List.getElem?_eq_getElem hlt]; rfl), ?_⟩
    have hb := bx _ (List.getElem_mem hlt)
    generalize zs[i] = t at hb
    simp only [List.cons_append, List.nil_append]
    have FE0 := FE
    refine asg_Name (store_local FE (by walk_at "upd") (by walk_at "put") ?_)
    refine wps_cons ?_
    refine wp1_If (WP.pin (T := BRel) false ?_ ⟨fun h => (nomatch h), fun zz => ?_⟩)
    · repeat walk_at "s"
      refine wp_LC (ln' := ["figure"]) (gn' := []) (fs := []) (cs := []) FE (by kernel_rfl) (List.forall_mem_nil _) ?_
      refine wpi_value ?_
      repeat walk_at "s"
      refine c_abs ?_
      repeat walk_at "s"
      refine sp_int2digits (x := t.natAbs) (n := 4) W (hr.mono (by decide)) (by decide) (Nat.lt_trans hb (Nat.pow_lt_pow_right (by decide) (by decide))) (by decide) (.tail _ (.tail _ hT.i2d)) ?_
      intro dl
      have hnd : ndig t.natAbs 4 ≤ 100 := by
        have : Builtin.Int.intBits (t.natAbs : Int) ≤ 30 := intBits_le (by rw [Int.natAbs_natCast]; exact hb)
        unfold ndig; lia
      have hdl : (digs t.natAbs 4 (ndig t.natAbs 4)).length ≤ 100 := by rw [digs, List.length_map, List.length_range]; exact hnd
      have hdm : ∀ d ∈ digs t.natAbs 4 (ndig t.natAbs 4), d < 16 := fun d hd => by
        rw [digs] at hd
        obtain ⟨k, _, rfl⟩ := List.mem_map.mp hd
        exact Nat.mod_lt _ (by decide)
      have hbw := byte_word t.natAbs
      generalize digs t.natAbs 4 (ndig t.natAbs 4) = ds at hdl hdm hbw
      refine pi_list hA (.head _) ?_
      intro b c cenv FE
      replace FE : FEnv cenv c ["figure"] [] [] := FE
      refine turns_mapL (l := ds) (g := fun (d : Nat) => V.int (d : Nat)) (f := fun (d : Nat) => .int ((65 : Int) + d)) FE (by lia) (fun i k o acc h => listItem_some (.tail _ (.tail _ (.head _))) (by rw [List.getElem?_map, h]; rfl)) (fun o acc => listItem_none (.tail _ (.tail _ (.head _))) (by simp)) (fun d hd acc => ?_) fun o => ?_
      · repeat walk_at "s"
        exact ⟨rfl, .refl _⟩
      · refine ⟨_, _, .head, ?_⟩
        have FE := FE0
        repeat walk_at "s"
        refine gs_list (.head _) (by decide) (by rw [List.length_map]; lia) ?_
        intro b2
        have er : pySlice (ds.map fun (d : Nat) => V.int ((65 : Int) + d)) none none (some (-1)) = ((ds.map fun (d : Nat) => (65 : Int) + d).reverse).map V.int := by rw [pySlice_rev, List.map_reverse, List.map_map]; rfl
        rw [er]
        repeat walk_at "s"
        refine c_bytes_ints hA (.head _) (fun n hn => ?_) (by simp; lia) ?_
        · obtain ⟨d, hd, rfl⟩ := List.mem_map.mp (List.mem_reverse.mp hn)
          have := hdm d hd; lia
        repeat walk_at "s"
        refine sp_Int2AP W (hr.mono (by decide)) (Nat.lt_trans hb (by decide)) ?_
        refine op_ne_bytes ?_
        rw [hbw]
        repeat walk_at "s"
        exact ⟨by simp, .drop (.drop (.drop (.refl _)))⟩
    · refine wps_nil ?_
      refine wps_next ?_
      refine wps_nil ?_
      exact ⟨_, hlt, rfl⟩
  · right
    have hi' : i = zs.length := by lia
    subst hi'
    refine ⟨listItem_none (.head _) (by simp), ?_⟩
    refine WP.sub (.drop (.refl _)) ?_
    refine wps_nil ?_
    refine wps_next ?_
    exact part18 W hr hfr hfL hkd FE h1 h2 hT
end
end
noncomputable section
noncomputable abbrev noteT (tx : List Nat) (m : Nat) : Int × Int := ((m : Int), 1 + nl (tx.take m))
noncomputable abbrev noteD (p : Int × Int) : PyData := .tuple [.int p.1, .int p.2]
theorem noteD_eqv (p : Int × Int) : PyData.eqv (noteD p) (noteD p) = true := eqv_tup_self fun d hd => by
  simp only [List.mem_cons, List.not_mem_nil, or_false] at hd
  rcases hd with rfl | rfl <;> exact eqv_int_self
theorem noteD_ok (p : Int × Int) : DOk 1 (noteD p) := dok_tup fun d hd => by
  simp only [List.mem_cons, List.not_mem_nil, or_false] at hd
  rcases hd with rfl | rfl <;> exact dok_int
theorem notes_rel {H : AH} {b : Addr} {ps : List (Int × Int)} (h : (b, AO.list (ntV ps)) ∈ H) : DRel H (.list (ps.map noteD)) (.ref b) := dr_list h (ds_map (fun p => dr_tup (ds_cons dr_int (ds_cons dr_int ds_nil))) ps)
theorem notes_ok (ps : List (Int × Int)) : SeqAt.shaped (.list (ps.map noteD)) = true := (dok_list (n := 1) fun d hd => by obtain ⟨p, _, rfl⟩ := List.mem_map.mp hd; exact noteD_ok p).shaped (by decide)
section
variable {C : Cfg} {a : Ad} {A : Around} {R : AH} {env : Env} {L cF cW cT cN : Addr}
theorem part16 {v0 v1 v2 v4 v5 v6 v7 v8 v9 v10 v12 v13 v15 v16 v20 v21 v22 v23 : Option V} {up dn : Int} {tl ml mk na : Addr} {xs ys : List Int} {tx mks : List Nat} (W : W3 C a) (hr : Room A 140) (hfr : A.frames = some [env]) (hfL : env.frame = some L) (hkd : env.scope.kind ≠ .module)
    (FE : FEnv env L lawL [("four", cF), ("row", cW), ("text", cT), ("number", cN)] lawG) (h1 : up.natAbs < 2 ^ 30) (h2 : dn.natAbs < 2 ^ 30) (hx : (tl, AO.list (intVs xs)) ∈ R) (hy : (ml, AO.list (intVs ys)) ∈ R)
    (bx : ∀ t ∈ xs ++ ys, t.natAbs < 2 ^ 30) (hz : xs.length + ys.length ≤ 1000) (hT : TabsL a R) (hm : (mk, AO.list (natVs mks)) ∈ R) (hn : (na, AO.list (ntV ((mks ++ [tx.length, tx.length]).map (noteT tx)))) ∈ R) (ht : (cT, AO.cell (some (.str (mkS tx)))) ∈ R)
    (zm : mks.length ≤ 1000) (zt : tx.length ≤ 90000) :
    WPS C A env (LB.drop 16) (QL a) ((L, .ns lawL [v0, v1, v2, some (.ref tl), v4, v5, v6, v7, v8, v9, v10, some (.ref mk), v12, v13, some (.ref na), v15, v16, some (.int up), some (.int dn), some (.ref ml), v20, v21, v22, v23]) :: R) := by
  have G := W.G
  have hA := hr.hd
  refine wps_cons ?_
  refine wp1_If (WP.pin (T := BRel) false ?_ ⟨fun h => (nomatch h), fun zz => ?_⟩)
  · repeat walk_at "s"
    have FE0 := FE
    refine wp_LC (ln' := ["mark"]) (gn' := []) (fs := ["text"]) (cs := [cT]) FE (by kernel_rfl) (List.forall_mem_cons.mpr ⟨by walk_at "mem", List.forall_mem_nil _⟩) ?_
    refine wpi_value ?_
    repeat walk_at "s"
    refine c_len_str (by rw [mkS_len]; lia) ?_
    repeat walk_at "s"
    refine c_len_str (by rw [mkS_len]; (clear FE0 hA G zm ht hn hm hT hz bx hy hx h2 h1 FE hkd hfL hfr hr W; lia)) ?_
    repeat walk_at "s"
    intro b0
    refine op_add_list (.tail _ (.tail _ hm)) (.head _) (by rw [List.length_map]; simp; lia) ?_
    intro b1
    have e : natVs mks ++ [V.int (((mkS tx).length : Nat) : Int), V.int (((mkS tx).length : Nat) : Int)] = natVs (mks ++ [tx.length, tx.length]) := by rw [natVs, natVs, List.map_append, mkS_len]; rfl
    rw [e]
    have hz2 : (mks ++ [tx.length, tx.length]).length ≤ 2000 := by simp; lia
    generalize mks ++ [tx.length, tx.length] = ms at hn hz2 ⊢
    refine pi_list hA (.head _) ?_
    intro b c cenv FE
    replace FE : FEnv cenv c ["mark"] [("text", cT)] [] := FE
    refine turns_mapL (l := ms) (g := fun (m : Nat) => V.int (m : Nat)) (f := fun m => tup2 (noteT tx m)) FE (by lia) (fun i k o acc h => listItem_some (.tail _ (.tail _ (.head _))) (by rw [List.getElem?_map, h]; rfl)) (fun o acc => listItem_none (.tail _ (.tail _ (.head _))) (by simp)) (fun m hm acc => ?_) fun o => ?_
    · repeat walk_at "s"
      refine gs_str_take (p := m) (by lia) ?_
      refine wpm_scount ?_
      repeat walk_at "s"
      refine c_scount ?_
      have e10 : ("\n" : Str) = ⟨#[10]⟩ := by decide +kernel
      rw [e10, count_sign]
      repeat walk_at "s"
      exact ⟨rfl, .refl _⟩
    · refine ⟨_, _, .head, ?_⟩
      have en : ms.map (fun m => tup2 (noteT tx m)) = ntV (ms.map (noteT tx)) := by rw [ntV, List.map_map]; rfl
      rw [en]
      refine op_ne_data (notes_rel (.tail _ (.tail _ (.tail _ (.tail _ hn))))) (notes_rel (.head _)) (notes_ok _) (notes_ok _) hr.line ?_
      rw [eqv_list_self fun d hd => by obtain ⟨p, _, rfl⟩ := List.mem_map.mp hd; exact noteD_eqv p]
      repeat walk_at "s"
      exact ⟨rfl, .drop (.drop (.drop (.refl _)))⟩
  · refine wps_nil ?_
    refine wps_next ?_
    exact part17 W hr hfr hfL hkd FE h1 h2 hx hy bx hz hT
end
end
noncomputable section
noncomputable def L15T : Expr := match nth LB 15 with | .For t _ _ _ _ => t | _ => .Name "" ⟨0, 0, 0, 0⟩
noncomputable def L15B : List Stmt := match nth LB 15 with | .For _ _ b _ _ => b | _ => []
noncomputable abbrev cntL (pa pb pc pd : Int) (zs : List Int) : List Nat := (List.range (zs.length + 1)).map (cntF pa pb pc pd zs)
theorem cntL_eq (pa pb pc pd : Int) (zs : List Int) : [0] ++ (List.range zs.length).map (fun k => alikeF pa pb pc pd (zs.take (k + 1))) = cntL pa pb pc pd zs := by
  rw [cntL, List.range_succ_eq_map, List.map_cons, List.map_map]; rfl
inductive AkI (vs us : List (Option V)) (L cF cW : Addr) (R : AH) (i : Nat) (H₁ : AH) : Prop
  | mk (o o1 o2 : Option V) (hi : i ≤ 2) (e : H₁ = (L, .ns lawL (vs ++ o :: us)) :: (cF, .cell o1) :: (cW, .cell o2) :: R) : AkI vs us L cF cW R i H₁
section
variable {C : Cfg} {a : Ad} {A : Around} {R : AH} {env : Env} {L cF cW cT cN : Addr}
theorem alike_turn {v0 v1 v2 v3 v4 v5 v6 v7 v8 v9 v10 v11 v12 v13 v14 v15 v16 v17 v18 v19 v20 v21 v22 v23 : Option V} {o1 o2 : Option V} {pa pb pc pd : Int} {rl ca : Addr} {zs : List Int} {QF : Fl → AH → Prop} (W : W3 C a) (hr : Room A 140) (hfr : A.frames = some [env]) (hfL : env.frame = some L) (hkd : env.scope.kind ≠ .module)
    (FE : FEnv env L lawL [("four", cF), ("row", cW), ("text", cT), ("number", cN)] lawG)
    (hx : (rl, AO.list (intVs zs)) ∈ R) (hc : (ca, AO.list (natVs (cntL pa pb pc pd zs))) ∈ R) (bx : ∀ t ∈ zs, t.natAbs < 2 ^ 30) (hz : zs.length ≤ 60) (ha : pa.natAbs < 6) (hb : pb.natAbs < 6) (hc' : pc.natAbs < 6) (hd : pd.natAbs < 6) (hT : TabsL a R)
    (q : QF .next ((L, .ns lawL [v0, v1, v2, v3, v4, v5, v6, v7, v8, v9, v10, v11, v12, v13, v14, v15, v16, v17, v18, v19, v20, v21, some (.ref ca), v23]) :: (cF, .cell (some (.tup [.int pa, .int pb, .int pc, .int pd]))) :: (cW, .cell (some (.ref rl))) :: R)) :
    WPA C A env L15T (.tup [.tup [.int pa, .int pb, .int pc, .int pd], .ref rl, .ref ca]) (fun zz H₂ => WPS C A env L15B QF H₂) ((L, .ns lawL [v0, v1, v2, v3, v4, v5, v6, v7, v8, v9, v10, v11, v12, v13, v14, v15, v16, v17, v18, v19, v20, v21, v22, v23]) :: (cF, .cell o1) :: (cW, .cell o2) :: R) := by
  have G := W.G
  have hA := hr.hd
  have big : ∀ {x : Int}, x.natAbs < 6 → x.natAbs < 2 ^ 100 := fun h => Nat.lt_trans h (by decide)
  refine asg_Tuple hA (wpas_cons ?_)
  repeat walk_at "s"
  refine wpas_cons ?_
  repeat walk_at "s"
  refine wpas_cons ?_
  repeat walk_at "s"
  refine wpas_nil ?_
  refine wps_cons ?_
  refine wp1_If (WP.pin (T := BRel) false ?_ ⟨fun h => (nomatch h), fun zz => ?_⟩)
  · repeat walk_at "s"
    intro b0
    have FE0 := FE
    refine wp_LC (ln' := ["k"]) (gn' := ["_law_alike"]) (fs := ["four", "row"]) (cs := [cF, cW]) FE (by kernel_rfl) (List.forall_mem_cons.mpr ⟨by walk_at "mem", List.forall_mem_cons.mpr ⟨by walk_at "mem", List.forall_mem_nil _⟩⟩) ?_
    refine wpi_value ?_
    repeat walk_at "s"
    refine c_len_list (vs := intVs zs) (by walk_at "mem") (by rw [List.length_map]; lia) ?_
    repeat walk_at "s"
    refine c_range1 ?_
    intro r t u v
    rw [List.length_map]
    repeat walk_at "s"
    refine pi_range (a := 0) (b := (zs.length : Nat)) hA (by decide) (by lia) (.head _) ?_
    intro b c cenv FE
    replace FE : FEnv cenv c ["k"] [("row", cW), ("four", cF)] ["_law_alike"] := FE
    refine turns_mapL (l := List.range zs.length) (g := fun (k : Nat) => V.int (k : Nat)) (f := fun k => .int (alikeF pa pb pc pd (zs.take (k + 1)) : Nat)) FE (by rw [List.length_range]; lia) (fun i k o acc h => range_item h) (fun o acc => range_end) (fun k hk acc => ?_) fun o => ?_
    · have hk' := List.mem_range.mp hk
      repeat walk_at "s"
      refine gs_list (vs := intVs zs) (by walk_at "mem") (by decide) (by rw [List.length_map]; lia) ?_
      intro s1
      have es : pySlice (intVs zs) none (some (((k : Nat) : Int) + 1)) none = intVs (zs.take (k + 1)) := by
        have e1 : ((k : Nat) : Int) + 1 = ((k + 1 : Nat) : Int) := by push_cast; rfl
        rw [e1, pySlice_upto, intVs, intVs, List.map_take]
      rw [es]
      repeat walk_at "s"
      refine sp_alike W (hr.mono (by decide)) (.head _) (fun t ht => Nat.lt_trans (bx t (List.mem_of_mem_take ht)) (by decide)) (by rw [List.length_take]; lia) (take_ne (by exact Nat.zero_lt_succ k) (by assumption)) (big ha) (big hb) (big hc') (big hd) ?_
      exact ⟨rfl, .drop (.refl _)⟩
    · refine ⟨_, _, .head, ?_⟩
      refine op_add_list (.tail _ (.tail _ (.head _))) (.head _) (by simp; lia) ?_
      intro b2
      have e : [V.int 0] ++ (List.range zs.length).map (fun k => V.int (alikeF pa pb pc pd (zs.take (k + 1)) : Nat)) = natVs (cntL pa pb pc pd zs) := by
        rw [← cntL_eq, natVs, List.map_append, List.map_map]; rfl
      rw [e]
      refine op_ne_data (dr_nats (.tail _ (.tail _ (.tail _ (.tail _ (.tail _ (.tail _ (.tail _ hc)))))))) (dr_nats (.head _)) ((dok_ints (n := 0)).shaped (by decide)) ((dok_ints (n := 0)).shaped (by decide)) hr.line ?_
      rw [eqv_ints, decide_eq_true rfl]
      repeat walk_at "s"
      exact ⟨rfl, .drop (.drop (.drop (.drop (.refl _))))⟩
  · refine wps_nil ?_
    refine wps_next ?_
    exact wps_nil q
theorem part15 {v0 v1 v2 v4 v5 v6 v7 v10 v13 v15 v16 v20 v21 v22 v23 : Option V} {o1 o2 : Option V} {up dn pa pb pc pd : Int} {tl ml mk na as a1 a2 : Addr} {xs ys : List Int} {tx mks : List Nat} (W : W3 C a) (hr : Room A 140) (hfr : A.frames = some [env]) (hfL : env.frame = some L) (hkd : env.scope.kind ≠ .module)
    (FE : FEnv env L lawL [("four", cF), ("row", cW), ("text", cT), ("number", cN)] lawG) (h1 : up.natAbs < 2 ^ 30) (h2 : dn.natAbs < 2 ^ 30) (hx : (tl, AO.list (intVs xs)) ∈ R) (hy : (ml, AO.list (intVs ys)) ∈ R)
    (bx : ∀ t ∈ xs ++ ys, t.natAbs < 2 ^ 30) (zx : xs.length ≤ 60) (zy : ys.length ≤ 60) (hT : TabsL a R) (hm : (mk, AO.list (natVs mks)) ∈ R) (hn : (na, AO.list (ntV ((mks ++ [tx.length, tx.length]).map (noteT tx)))) ∈ R) (ht : (cT, AO.cell (some (.str (mkS tx)))) ∈ R)
    (zm : mks.length ≤ 1000) (zt : tx.length ≤ 90000) (ha : pa.natAbs < 6) (hb : pb.natAbs < 6) (hc : pc.natAbs < 6) (hd : pd.natAbs < 6) (has : (as, AO.list [.ref a1, .ref a2]) ∈ R) (ha1 : (a1, AO.list (natVs (cntL pa pb pc pd xs))) ∈ R) (ha2 : (a2, AO.list (natVs (cntL pd (-pb) (-pc) pa ys))) ∈ R) :
    WPS C A env (LB.drop 15) (QL a) ((L, .ns lawL [v0, v1, v2, some (.ref tl), v4, v5, v6, v7, some (.tup [.int pa, .int pb, .int pc, .int pd]), some (.tup [.int pd, .int (-pb), .int (-pc), .int pa]), v10, some (.ref mk), some (.ref as), v13, some (.ref na), v15, v16, some (.int up), some (.int dn), some (.ref ml), v20, v21, v22, v23]) :: (cF, .cell o1) :: (cW, .cell o2) :: R) := by
  have G := W.G
  have hA := hr.hd
  refine wps_cons ?_
  refine wp1_For (wpi_value ?_)
  repeat walk_at "s"
  refine gi_list (by walk_at "mem") (by decide) rfl (Nat.le_of_ble_eq_true rfl) ?_
  repeat walk_at "s"
  refine gi_list (by walk_at "mem") (by decide) rfl (Nat.le_of_ble_eq_true rfl) ?_
  repeat walk_at "s"
  refine pi_tup hA ?_
  refine ⟨AkI [v0, v1, v2, some (.ref tl), v4, v5, v6, v7, some (.tup [.int pa, .int pb, .int pc, .int pd]), some (.tup [.int pd, .int (-pb), .int (-pc), .int pa]), v10, some (.ref mk), some (.ref as), v13, some (.ref na), v15, v16, some (.int up), some (.int dn), some (.ref ml), v20, v21] [v23] L cF cW R, 2, ⟨_, o1, o2, Nat.zero_le _, rfl⟩, ?_⟩
  rintro i H₁ ⟨o, p1, p2, hi, rfl⟩
  simp only [List.cons_append, List.nil_append]
  match i, hi with
  | 0, _ =>
    left
    refine ⟨_, by decide, tup_some rfl, ?_⟩
    refine alike_turn W hr hfr hfL hkd FE hx ha1 (fun t h => bx t (List.mem_append_left _ h)) zx ha hb hc hd hT ?_
    exact ⟨_, _, _, by decide, rfl⟩
  | 1, _ =>
    left
    refine ⟨_, by decide, tup_some rfl, ?_⟩
    refine alike_turn W hr hfr hfL hkd FE hy ha2 (fun t h => bx t (List.mem_append_right _ h)) zy hd (by rw [Int.natAbs_neg]; exact hb) (by rw [Int.natAbs_neg]; exact hc) ha hT ?_
    exact ⟨_, _, _, by decide, rfl⟩
  | 2, _ =>
    right
    refine ⟨tup_none (Nat.le_refl 2), ?_⟩
    refine wps_nil ?_
    refine wps_next ?_
    exact part16 (R := (cF, _) :: (cW, _) :: R) W hr hfr hfL hkd FE h1 h2 (.tail _ (.tail _ hx)) (.tail _ (.tail _ hy)) bx (by lia) hT.tl.tl (.tail _ (.tail _ hm)) (.tail _ (.tail _ hn)) (.tail _ (.tail _ ht)) zm zt
end
end
noncomputable section
noncomputable abbrev owL (xs : List Int) : List (Option Int) := (dueF xs).map some ++ List.replicate (11 - (dueF xs).length) none
theorem owV_eq (l : List (Option Int)) : owV l = strVs (l.map owW) := by rw [owV, strVs, List.map_map]; rfl
theorem owL_eq {xs : List Int} (h : (dueF xs).length ≤ 11) : strVs (zws (dueF xs)) ++ List.replicate ((11 : Int) - ((dueF xs).length : Nat)).toNat (V.str "") = strVs ((owL xs).map owW) := by
  have e : ((11 : Int) - ((dueF xs).length : Nat)).toNat = 11 - (dueF xs).length := by lia
  rw [e, mkS_nil, owL, List.map_append, List.map_map, List.map_replicate, strVs, strVs, List.map_append, List.map_replicate]
  rfl
theorem owL_lt {xs : List Int} : ∀ w ∈ (owL xs).map owW, ∀ c ∈ w, c < 0x110000 := fun w hw c hc => by
  obtain ⟨o, _, rfl⟩ := List.mem_map.mp hw
  cases o with
  | none => cases hc
  | some z => exact zw_lt hc
noncomputable abbrev wwD (xs ys : List Int) : PyData := .list [dSs (zws xs), dSs (zws ys), dSs ((owL xs).map owW)]
theorem wwD_ok (xs ys : List Int) : SeqAt.shaped (wwD xs ys) = true := (dok_list (n := 1) fun d hd => by
  simp only [List.mem_cons, List.not_mem_nil, or_false] at hd
  rcases hd with rfl | rfl | rfl
  · exact dok_strs zws_lt
  · exact dok_strs zws_lt
  · exact dok_strs owL_lt).shaped (by decide)
theorem wwD_eqv (xs ys : List Int) : PyData.eqv (wwD xs ys) (wwD xs ys) = true := eqv_list_self fun d hd => by
  simp only [List.mem_cons, List.not_mem_nil, or_false] at hd
  rcases hd with rfl | rfl | rfl <;> exact eqv_strs_self
theorem wwD_rel {H : AH} {l b c d : Addr} {xs ys : List Int} (h : (l, AO.list [.ref b, .ref c, .ref d]) ∈ H) (h1 : (b, pbA xs) ∈ H) (h2 : (c, pbA ys) ∈ H) (h3 : (d, AO.list (strVs ((owL xs).map owW))) ∈ H) : DRel H (wwD xs ys) (.ref l) :=
  dr_list h (ds_cons (dr_strs h1) (ds_cons (dr_strs h2) (ds_cons (dr_strs h3) ds_nil)))
section
variable {C : Cfg} {a : Ad} {A : Around} {R : AH} {env : Env} {L cF cW cT cN : Addr}
theorem part14 {v0 v1 v2 v4 v5 v6 v7 v10 v15 v16 v22 v23 : Option V} {o1 o2 : Option V} {up dn pa pb pc pd : Int} {tl ml mk na as a1 a2 lh q1 q2 cm rw r1 r2 r3 du : Addr} {xs ys : List Int} {tx mks : List Nat} (W : W3 C a) (hr : Room A 140) (hfr : A.frames = some [env]) (hfL : env.frame = some L) (hkd : env.scope.kind ≠ .module)
    (FE : FEnv env L lawL [("four", cF), ("row", cW), ("text", cT), ("number", cN)] lawG) (h1 : up.natAbs < 2 ^ 30) (h2 : dn.natAbs < 2 ^ 30) (hx : (tl, AO.list (intVs xs)) ∈ R) (hy : (ml, AO.list (intVs ys)) ∈ R)
    (bx : ∀ t ∈ xs ++ ys, t.natAbs < 2 ^ 30) (zx : xs.length ≤ 10) (zy : ys.length ≤ 60) (hT : TabsL a R) (hm : (mk, AO.list (natVs mks)) ∈ R) (hn : (na, AO.list (ntV ((mks ++ [tx.length, tx.length]).map (noteT tx)))) ∈ R) (ht : (cT, AO.cell (some (.str (mkS tx)))) ∈ R)
    (zm : mks.length ≤ 1000) (zt : tx.length ≤ 90000) (ha : pa.natAbs < 6) (hb : pb.natAbs < 6) (hc : pc.natAbs < 6) (hd : pd.natAbs < 6) (has : (as, AO.list [.ref a1, .ref a2]) ∈ R) (ha1 : (a1, AO.list (natVs (cntL pa pb pc pd xs))) ∈ R) (ha2 : (a2, AO.list (natVs (cntL pd (-pb) (-pc) pa ys))) ∈ R)
    (hlh : (lh, AO.list [.ref q1, .ref q2, .ref cm]) ∈ R) (hq1 : (q1, pbA xs) ∈ R) (hq2 : (q2, pbA ys) ∈ R) (hcm : (cm, AO.list (owV (owL xs))) ∈ R) (hrw : (rw, AO.list [.ref r1, .ref r2, .ref r3]) ∈ R) (hr1 : (r1, pbA xs) ∈ R) (hr2 : (r2, pbA ys) ∈ R) (hr3 : (r3, pbA (dueF xs)) ∈ R) (hdu : (du, AO.list (intVs (dueF xs))) ∈ R) :
    WPS C A env (LB.drop 14) (QL a) ((L, .ns lawL [v0, v1, v2, some (.ref tl), v4, v5, v6, v7, some (.tup [.int pa, .int pb, .int pc, .int pd]), some (.tup [.int pd, .int (-pb), .int (-pc), .int pa]), v10, some (.ref mk), some (.ref as), some (.ref lh), some (.ref na), v15, v16, some (.int up), some (.int dn), some (.ref ml), some (.ref du), some (.ref rw), v22, v23]) :: (cF, .cell o1) :: (cW, .cell o2) :: R) := by
  have G := W.G
  have hA := hr.hd
  have hdl : (dueF xs).length ≤ 11 := Nat.le_trans (due_len xs) (by exact Nat.le_succ_of_le zx)
  refine wps_cons ?_
  refine wp1_If (WP.pin (T := BRel) false ?_ ⟨fun h => (nomatch h), fun zz => ?_⟩)
  · repeat walk_at "s"
    refine gs_list (by walk_at "mem") (by decide) (Nat.le_of_ble_eq_true rfl) ?_
    intro s1
    have e1 : pySlice [V.ref r1, V.ref r2, V.ref r3] none (some 2) none = [V.ref r1, V.ref r2] := pySlice_upto (p := 2) _
    rw [e1]
    repeat walk_at "s"
    refine gi_list (by walk_at "mem") (by decide) rfl (Nat.le_of_ble_eq_true rfl) ?_
    repeat walk_at "s"
    intro b0
    repeat walk_at "s"
    refine c_len_list (vs := intVs (dueF xs)) (by walk_at "mem") (by rw [List.length_map]; lia) ?_
    rw [List.length_map]
    repeat walk_at "s"
    refine op_mul_list (.head _) (by lia) (by lia) ?_
    intro b1
    refine op_add_list (vs := strVs (zws (dueF xs))) (by walk_at "mem") (.head _) (by rw [List.length_map, List.length_map, List.length_replicate]; lia) ?_
    intro b2
    rw [owL_eq hdl]
    repeat walk_at "s"
    intro b3
    refine op_add_list (vs := [.ref r1, .ref r2]) (us := [.ref b2]) (by walk_at "mem") (.head _) (Nat.le_of_ble_eq_true rfl) ?_
    intro b4
    rw [owV_eq] at hcm
    refine op_ne_data (d := wwD xs ys) (e := wwD xs ys) (wwD_rel (by walk_at "mem") (by walk_at "mem") (by walk_at "mem") (by walk_at "mem")) (wwD_rel (b := r1) (c := r2) (d := b2) (.head _) (by walk_at "mem") (by walk_at "mem") (by walk_at "mem")) (wwD_ok _ _) (wwD_ok _ _) hr.line ?_
    rw [wwD_eqv]
    repeat walk_at "s"
    exact ⟨rfl, by walk_at "sub"⟩
  · refine wps_nil ?_
    refine wps_next ?_
    exact part15 W hr hfr hfL hkd FE h1 h2 hx hy bx (by lia) zy hT hm hn ht zm zt ha hb hc hd has ha1 ha2
end
end
noncomputable section
section
variable {C : Cfg} {a : Ad} {A : Around} {R : AH} {env : Env} {L cF cW cT cN : Addr}
theorem part13 {v0 v1 v2 v4 v5 v6 v7 v10 v15 v16 v21 v22 v23 : Option V} {o1 o2 : Option V} {up dn pa pb pc pd : Int} {tl ml mk na as a1 a2 lh q1 q2 cm du : Addr} {xs ys : List Int} {tx mks : List Nat} (W : W3 C a) (hr : Room A 140) (hfr : A.frames = some [env]) (hfL : env.frame = some L) (hkd : env.scope.kind ≠ .module)
    (FE : FEnv env L lawL [("four", cF), ("row", cW), ("text", cT), ("number", cN)] lawG) (h1 : up.natAbs < 2 ^ 30) (h2 : dn.natAbs < 2 ^ 30) (hx : (tl, AO.list (intVs xs)) ∈ R) (hy : (ml, AO.list (intVs ys)) ∈ R)
    (bx : ∀ t ∈ xs ++ ys, t.natAbs < 2 ^ 30) (bd : ∀ t ∈ dueF xs, t.natAbs < 2 ^ 30) (zx : xs.length ≤ 10) (zy : ys.length ≤ 60) (hT : TabsL a R) (hm : (mk, AO.list (natVs mks)) ∈ R) (hn : (na, AO.list (ntV ((mks ++ [tx.length, tx.length]).map (noteT tx)))) ∈ R) (ht : (cT, AO.cell (some (.str (mkS tx)))) ∈ R)
    (zm : mks.length ≤ 1000) (zt : tx.length ≤ 90000) (ha : pa.natAbs < 6) (hb : pb.natAbs < 6) (hc : pc.natAbs < 6) (hd : pd.natAbs < 6) (has : (as, AO.list [.ref a1, .ref a2]) ∈ R) (ha1 : (a1, AO.list (natVs (cntL pa pb pc pd xs))) ∈ R) (ha2 : (a2, AO.list (natVs (cntL pd (-pb) (-pc) pa ys))) ∈ R)
    (hlh : (lh, AO.list [.ref q1, .ref q2, .ref cm]) ∈ R) (hq1 : (q1, pbA xs) ∈ R) (hq2 : (q2, pbA ys) ∈ R) (hcm : (cm, AO.list (owV (owL xs))) ∈ R) (hdu : (du, AO.list (intVs (dueF xs))) ∈ R) :
    WPS C A env (LB.drop 13) (QL a) ((L, .ns lawL [v0, v1, v2, some (.ref tl), v4, v5, v6, v7, some (.tup [.int pa, .int pb, .int pc, .int pd]), some (.tup [.int pd, .int (-pb), .int (-pc), .int pa]), v10, some (.ref mk), some (.ref as), some (.ref lh), some (.ref na), v15, v16, some (.int up), some (.int dn), some (.ref ml), some (.ref du), v21, v22, v23]) :: (cF, .cell o1) :: (cW, .cell o2) :: R) := by
  have G := W.G
  have hA := hr.hd
  have hdl : (dueF xs).length ≤ 10 := Nat.le_trans (due_len xs) zx
  have FE0 := FE
  refine wps_cons ?_
  refine wp1_LC (ln' := ["row"]) (gn' := []) (fs := []) (cs := []) FE (by kernel_rfl) (List.forall_mem_nil _) (by walk_at "mem") (by decide +kernel) ?_
  refine wpi_value ?_
  repeat walk_at "s"
  refine pi_tup hA ?_
  intro b c cenv FE
  replace FE : FEnv cenv c ["row"] [] [] := FE
  have hall : ∀ p ∈ [(tl, xs), (ml, ys), (du, dueF xs)], (p.1, AO.list (intVs p.2)) ∈ R ∧ (∀ t ∈ p.2, t.natAbs < 2 ^ 30) ∧ p.2.length ≤ 60 := fun p hp => by
    simp only [List.mem_cons, List.not_mem_nil, or_false] at hp
    rcases hp with rfl | rfl | rfl
    · exact ⟨hx, fun t h => bx t (List.mem_append_left _ h), by dsimp only; lia⟩
    · exact ⟨hy, fun t h => bx t (List.mem_append_right _ h), zy⟩
    · exact ⟨hdu, bd, by dsimp only; lia⟩
  have hit : ∀ (i : Nat) (k : Addr × List Int) (H : AH), ([(tl, xs), (ml, ys), (du, dueF xs)] : List (Addr × List Int))[i]? = some k → tupItem [V.ref tl, V.ref ml, V.ref du] i H (some (V.ref k.1)) := fun i k H h => by
    have e : [V.ref tl, V.ref ml, V.ref du] = ([(tl, xs), (ml, ys), (du, dueF xs)] : List (Addr × List Int)).map fun p => V.ref p.1 := rfl
    rw [e]
    exact tup_some (by rw [List.getElem?_map, h]; rfl)
  refine turns_newL (l := ([(tl, xs), (ml, ys), (du, dueF xs)] : List (Addr × List Int))) (g := fun (p : Addr × List Int) => V.ref p.1) (f := fun (p : Addr × List Int) => strVs (zws p.2)) FE (Nat.le_of_ble_eq_true rfl) (fun i k o acc P hP h => hit i k _ h) (fun o acc P hP => tup_none (Nat.le_refl 3)) (fun i p hp acc P hP => ?_) fun o rs hrs => ?_
  · obtain ⟨m1, m2, m3⟩ := hall p (List.mem_of_getElem? hp)
    have n1 := hP _ (.tail _ (.tail _ (.tail _ m1)))
    generalize p.2 = zs at m2 m3 n1 ⊢
    generalize p.1 = r1 at n1 ⊢
    refine wp_LC (ln' := ["term"]) (gn' := ["_law_own"]) (fs := []) (cs := []) FE (by kernel_rfl) (List.forall_mem_nil _) ?_
    refine wpi_value ?_
    repeat walk_at "s"
    refine pi_list hA (.tail _ (.tail _ n1)) ?_
    intro b2 c2 cenv2 FE
    replace FE : FEnv cenv2 c2 ["term"] [] ["_law_own"] := FE
    refine turns_mapL (l := zs) (g := V.int) (f := fun z => .str (mkS (zw z))) FE (by lia) (fun i k o acc h => listItem_some (.tail _ (.tail _ (.tail _ (.tail _ n1)))) (by rw [List.getElem?_map, h]; rfl)) (fun o acc => listItem_none (.tail _ (.tail _ (.tail _ (.tail _ n1)))) (by simp)) (fun z hz acc => ?_) fun o => ?_
    · repeat walk_at "s"
      refine sp_own W (hr.mono (by decide)) (Nat.lt_trans (m2 z hz) (by decide)) ?_
      exact ⟨rfl, .refl _⟩
    · refine ⟨_, _, .head, b2, rfl, ?_⟩
      have : zs.map (fun z => V.str (mkS (zw z))) = strVs (zws zs) := by rw [strVs, zws, List.map_map]; rfl
      rw [this]
      exact .pick (.tail .head) (.pick (.tail .head) (.pick .head (.refl _)))
  · obtain ⟨r1, r2, r3, rfl⟩ : ∃ r1 r2 r3, rs = [r1, r2, r3] := by
      match rs, hrs with
      | [r1, r2, r3], _ => exact ⟨r1, r2, r3, rfl⟩
    have FE := FE0
    simp only [nls, List.map_cons, List.map_nil, List.zip_cons_cons, List.zip_nil_right, List.reverse_cons, List.reverse_nil, List.nil_append, List.cons_append]
    refine store_local FE (by walk_at "upd") (by walk_at "put") ?_
    refine ⟨_, _, .head, ?_⟩
    refine wps_next ?_
    refine WP.sub (H' := (L, _) :: (cF, _) :: (cW, _) :: (b, _) :: (r3, _) :: (r2, _) :: (r1, _) :: R) (.pick (.tail (.tail (.tail (.tail .head)))) (.pick (.tail (.tail (.tail (.tail .head)))) (.pick (.tail (.tail (.tail (.tail .head)))) (.refl _)))) ?_
    have up4 : ∀ {p} {x y z w : Addr × AO}, p ∈ R → p ∈ x :: y :: z :: w :: R := fun h => .tail _ (.tail _ (.tail _ (.tail _ h)))
    exact part14 (R := (b, _) :: (r3, _) :: (r2, _) :: (r1, _) :: R) W hr hfr hfL hkd FE h1 h2 (up4 hx) (up4 hy) bx zx zy hT.tl.tl.tl.tl (up4 hm) (up4 hn) (up4 ht) zm zt ha hb hc hd (up4 has) (up4 ha1) (up4 ha2) (up4 hlh) (up4 hq1) (up4 hq2) (up4 hcm) (.head _) (.tail _ (.tail _ (.tail _ (.head _)))) (.tail _ (.tail _ (.head _))) (.tail _ (.head _)) (up4 hdu)
end
end
noncomputable section
theorem intVs_drop (l : List Int) (n : Nat) : (intVs l).drop n = intVs (l.drop n) := List.map_drop.symm
theorem due_app : ∀ (l : List Int) (x y : Int), dueF (l ++ [x, y]) = if y = 1 then l ++ [x + 1] else l ++ [x, y]
  | [], x, y => rfl
  | [t], x, y => by show t :: dueF ([] ++ [x, y]) = _; rw [due_app [] x y]; split <;> rfl
  | [t, u], x, y => by show t :: dueF ([u] ++ [x, y]) = _; rw [due_app [u] x y]; split <;> rfl
  | t :: u :: v :: l, x, y => by show t :: dueF ((u :: v :: l) ++ [x, y]) = _; rw [due_app (u :: v :: l) x y]; split <;> rfl
theorem due_short : ∀ l : List Int, l.drop 1 = [] → dueF l = l
  | [], _ => rfl
  | [_], _ => rfl
  | _ :: _ :: _, h => nomatch h
theorem last2_split {α : Type} : ∀ (l : List α), l.drop 1 ≠ [] → ∃ l' x y, l = l' ++ [x, y]
  | [], h => absurd rfl h
  | [_], h => absurd rfl h
  | [x, y], _ => ⟨[], x, y, rfl⟩
  | t :: u :: v :: l, _ => by
    obtain ⟨l', x, y, e⟩ := last2_split (u :: v :: l) (by simp)
    exact ⟨t :: l', x, y, by rw [e]; rfl⟩
theorem last1_at (l : List Int) (x y : Int) : (intVs (l ++ [x, y]))[((-1 : Int) + ((intVs (l ++ [x, y])).length : Nat)).toNat]? = some (.int y) := by
  have e : ((-1 : Int) + ((intVs (l ++ [x, y])).length : Nat)).toNat = l.length + 1 := by simp; lia
  rw [e]; simp
theorem last2_at (l : List Int) (x y : Int) : (intVs (l ++ [x, y]))[((-2 : Int) + ((intVs (l ++ [x, y])).length : Nat)).toNat]? = some (.int x) := by
  have e : ((-2 : Int) + ((intVs (l ++ [x, y])).length : Nat)).toNat = l.length := by simp; lia
  rw [e]; simp
section
variable {C : Cfg} {a : Ad} {A : Around} {R : AH} {env : Env} {L cF cW cT cN : Addr}
theorem part12 {v0 v1 v2 v4 v5 v6 v7 v10 v15 v16 v20 v21 v22 v23 : Option V} {o1 o2 : Option V} {up dn pa pb pc pd : Int} {tl ml mk na as a1 a2 lh q1 q2 cm : Addr} {xs ys : List Int} {tx mks : List Nat} (W : W3 C a) (hr : Room A 140) (hfr : A.frames = some [env]) (hfL : env.frame = some L) (hkd : env.scope.kind ≠ .module)
    (FE : FEnv env L lawL [("four", cF), ("row", cW), ("text", cT), ("number", cN)] lawG) (h1 : up.natAbs < 2 ^ 30) (h2 : dn.natAbs < 2 ^ 30) (hx : (tl, AO.list (intVs xs)) ∈ R) (hy : (ml, AO.list (intVs ys)) ∈ R)
    (bx : ∀ t ∈ xs ++ ys, t.natAbs < 2 ^ 30) (bd : ∀ t ∈ dueF xs, t.natAbs < 2 ^ 30) (zx : xs.length ≤ 10) (zy : ys.length ≤ 60) (hT : TabsL a R) (hm : (mk, AO.list (natVs mks)) ∈ R) (hn : (na, AO.list (ntV ((mks ++ [tx.length, tx.length]).map (noteT tx)))) ∈ R) (ht : (cT, AO.cell (some (.str (mkS tx)))) ∈ R)
    (zm : mks.length ≤ 1000) (zt : tx.length ≤ 90000) (ha : pa.natAbs < 6) (hb : pb.natAbs < 6) (hc : pc.natAbs < 6) (hd : pd.natAbs < 6) (has : (as, AO.list [.ref a1, .ref a2]) ∈ R) (ha1 : (a1, AO.list (natVs (cntL pa pb pc pd xs))) ∈ R) (ha2 : (a2, AO.list (natVs (cntL pd (-pb) (-pc) pa ys))) ∈ R)
    (hlh : (lh, AO.list [.ref q1, .ref q2, .ref cm]) ∈ R) (hq1 : (q1, pbA xs) ∈ R) (hq2 : (q2, pbA ys) ∈ R) (hcm : (cm, AO.list (owV (owL xs))) ∈ R) :
    WPS C A env (LB.drop 12) (QL a) ((L, .ns lawL [v0, v1, v2, some (.ref tl), v4, v5, v6, v7, some (.tup [.int pa, .int pb, .int pc, .int pd]), some (.tup [.int pd, .int (-pb), .int (-pc), .int pa]), v10, some (.ref mk), some (.ref as), some (.ref lh), some (.ref na), v15, v16, some (.int up), some (.int dn), some (.ref ml), v20, v21, v22, v23]) :: (cF, .cell o1) :: (cW, .cell o2) :: R) := by
  have G := W.G
  have hA := hr.hd
  have FE0 := FE
  have fin1 : ∀ {s1 : Addr} {x : AO} {du : Addr}, (du, AO.list (intVs (dueF xs))) ∈ R → WPS C A env (LB.drop 13) (QL a) ((s1, x) :: (L, .ns lawL [v0, v1, v2, some (.ref tl), v4, v5, v6, v7, some (.tup [.int pa, .int pb, .int pc, .int pd]), some (.tup [.int pd, .int (-pb), .int (-pc), .int pa]), v10, some (.ref mk), some (.ref as), some (.ref lh), some (.ref na), v15, v16, some (.int up), some (.int dn), some (.ref ml), some (.ref du), v21, v22, v23]) :: (cF, .cell o1) :: (cW, .cell o2) :: R) := fun hdu => WP.sub (.drop (.refl _)) (part13 W hr hfr hfL hkd FE h1 h2 hx hy bx bd zx zy hT hm hn ht zm zt ha hb hc hd has ha1 ha2 hlh hq1 hq2 hcm hdu)
  refine wps_cons ?_
  refine wp1_Assign_Name ?_
  refine wp_IfExp ?_
  repeat walk_at "s"
  refine gs_list (by walk_at "mem") (by decide) (by rw [List.length_map]; lia) ?_
  intro s1
  have e1 : pySlice (intVs xs) (some 1) none none = intVs (xs.drop 1) := (pySlice_drop (p := 1) _).trans (intVs_drop xs 1)
  rw [e1]
  refine tr_list (.head _) (by rw [List.length_map, List.length_drop]; (clear e1 fin1 FE0 hA G hcm hq2 hq1 hlh ha2 ha1 has hd hc hb ha zt zm ht hn hm hT zy bd bx hy hx h2 h1 FE hkd hfL hfr hr W; omega)) ?_
  rw [List.length_map]
  by_cases h0 : xs.drop 1 = []
  · have hdue := due_short xs h0
    rw [h0]
    refine ⟨fun h => (nomatch h), fun zz => ?_⟩
    refine ⟨fun h => (nomatch h), fun zz => ?_⟩
    refine wp_local FE (by walk_at "mem") (by walk_at "at") ?_
    refine store_local FE (by walk_at "upd") (by walk_at "put") ?_
    refine wps_next ?_
    exact fin1 (hdue.symm ▸ hx)
  · obtain ⟨l, x, y, rfl⟩ := last2_split xs h0
    have hpos : 0 < ((l ++ [x, y]).drop 1).length := List.length_pos_iff.mpr h0
    have hdue := due_app l x y
    have hzl : (intVs (l ++ [x, y])).length ≤ 1000 := by rw [List.length_map]; lia
    have hz2 : 2 ≤ (intVs (l ++ [x, y])).length := by simp
    refine ⟨fun zz => ?_, fun h => absurd hpos (of_decide_eq_false h)⟩
    repeat walk_at "s"
    refine gi_list_neg (.tail _ (.tail _ (.tail _ (.tail _ hx)))) (by decide) (by lia) (last1_at l x y) (by lia) ?_
    repeat walk_at "s"
    by_cases hy1 : y = 1
    · subst hy1
      rw [if_pos rfl] at hdue
      refine ⟨fun zz => ?_, fun h => (nomatch h)⟩
      repeat walk_at "s"
      refine ⟨fun zz => ?_, fun h => (nomatch h)⟩
      repeat walk_at "s"
      refine gs_list (.tail _ (.tail _ (.tail _ (.tail _ hx)))) (by decide) (by lia) ?_
      intro s2
      have e2 : pySlice (intVs (l ++ [x, 1])) none (some (-2)) none = intVs l := by
        rw [intVs, List.map_append]; exact pySlice_init2 _ _ _
      rw [e2]
      repeat walk_at "s"
      refine gi_list_neg (.tail _ (.tail _ (.tail _ (.tail _ (.tail _ hx))))) (by decide) (by lia) (last2_at l x 1) (by lia) ?_
      repeat walk_at "s"
      intro s3
      refine op_add_list (vs := intVs l) (us := [.int (x + 1)]) (by walk_at "mem") (.head _) (by rw [List.length_map]; simp at zx ⊢; lia) ?_
      intro du
      have e3 : intVs l ++ [V.int (x + 1)] = intVs (dueF (l ++ [x, 1])) := by rw [hdue]; simp
      rw [e3]
      refine store_local FE (by walk_at "upd") (by walk_at "put") ?_
      refine wps_next ?_
      refine WP.sub (H' := (L, _) :: (cF, _) :: (cW, _) :: (du, _) :: R) (.pick (.tail (.tail (.tail (.tail .head)))) (.pick (.tail (.tail (.tail (.tail .head)))) (.pick (.tail (.tail (.tail (.tail .head)))) (.pick .head (.drop (.drop (.drop (.refl _)))))))) ?_
      exact part13 (R := (du, _) :: R) W hr hfr hfL hkd FE h1 h2 (.tail _ hx) (.tail _ hy) bx bd zx zy hT.tl (.tail _ hm) (.tail _ hn) (.tail _ ht) zm zt ha hb hc hd (.tail _ has) (.tail _ ha1) (.tail _ ha2) (.tail _ hlh) (.tail _ hq1) (.tail _ hq2) (.tail _ hcm) (.head _)
    · rw [if_neg hy1] at hdue
      refine ⟨fun h => absurd (by simpa using h) hy1, fun zz => ?_⟩
      refine ⟨fun h => (nomatch h), fun zz => ?_⟩
      refine wp_local FE (by walk_at "mem") (by walk_at "at") ?_
      refine store_local FE (by walk_at "upd") (by walk_at "put") ?_
      refine wps_next ?_
      exact fin1 (hdue.symm ▸ hx)
end
end
noncomputable section
theorem due_sm {B : Nat} : ∀ (l : List Int), (∀ t ∈ l, t.natAbs < B) → ∀ t ∈ dueF l, t.natAbs < B + 1
  | [], _ => by intro t ht; cases ht
  | [x], h => by
    intro t ht
    have := h x (.head _)
    rcases List.mem_cons.mp ht with rfl | h
    · exact Nat.lt_add_right 1 (h t ht)
    · cases h
  | [x, y], h => by
    intro t ht
    have h1 := h x (.head _)
    have h2 := h y (.tail _ (.head _))
    unfold dueF at ht
    split at ht
    · rcases List.mem_cons.mp ht with rfl | h
      · (clear ht h2 h; omega)
      · cases h
    · rcases List.mem_cons.mp ht with rfl | ht
      · exact Nat.lt_add_right 1 (h t ht)
      · rcases List.mem_cons.mp ht with rfl | ht
        · lia
        · cases ht
  | x :: y :: z :: l, h => by
    intro t ht
    rcases List.mem_cons.mp (show t ∈ x :: dueF (y :: z :: l) from ht) with rfl | ht
    · have := h t (.head _); exact Nat.lt_add_right 1 this
    · exact due_sm (y :: z :: l) (fun u hu => h u (.tail _ hu)) t ht
theorem TermsOk.f1 {L : List Int} (h : TermsOk L) : (fracF L).1.natAbs < 2 ^ 21 := h.frac.1
theorem TermsOk.f2 {L : List Int} (h : TermsOk L) : (fracF L).2.natAbs < 2 ^ 21 := h.frac.2
section
variable {C : Cfg} {a : Ad} {A : Around} {R : AH} {env : Env} {L cF cW cT cN : Addr}
theorem part11 {v0 v1 v2 v4 v5 v6 v7 v10 v15 v16 v19 v20 v21 v22 v23 : Option V} {o1 o2 : Option V} {up dn pa pb pc pd : Int} {tl mk na as a1 a2 lh q1 q2 cm : Addr} {xs : List Int} {tx mks : List Nat} (W : W3 C a) (hr : Room A 140) (hfr : A.frames = some [env]) (hfL : env.frame = some L) (hkd : env.scope.kind ≠ .module)
    (FE : FEnv env L lawL [("four", cF), ("row", cW), ("text", cT), ("number", cN)] lawG) (hL : TermsOk xs) (hx : (tl, AO.list (intVs xs)) ∈ R)
    (hT : TabsL a R) (hm : (mk, AO.list (natVs mks)) ∈ R) (hn : (na, AO.list (ntV ((mks ++ [tx.length, tx.length]).map (noteT tx)))) ∈ R) (ht : (cT, AO.cell (some (.str (mkS tx)))) ∈ R)
    (zm : mks.length ≤ 1000) (zt : tx.length ≤ 90000) (ha : pa.natAbs < 6) (hb : pb.natAbs < 6) (hc : pc.natAbs < 6) (hd : pd.natAbs < 6) (has : (as, AO.list [.ref a1, .ref a2]) ∈ R) (ha1 : (a1, AO.list (natVs (cntL pa pb pc pd xs))) ∈ R) (ha2 : (a2, AO.list (natVs (cntL pd (-pb) (-pc) pa (midF pa pb pc pd xs)))) ∈ R)
    (hlh : (lh, AO.list [.ref q1, .ref q2, .ref cm]) ∈ R) (hq1 : (q1, pbA xs) ∈ R) (hq2 : (q2, pbA (midF pa pb pc pd xs)) ∈ R) (hcm : (cm, AO.list (owV (owL xs))) ∈ R)
    (hup : pa * (fracF xs).1 + pb * (fracF xs).2 = up) (hdn : pc * (fracF xs).1 + pd * (fracF xs).2 = dn) :
    WPS C A env (LB.drop 11) (QL a) ((L, .ns lawL [v0, v1, v2, some (.ref tl), v4, v5, v6, v7, some (.tup [.int pa, .int pb, .int pc, .int pd]), some (.tup [.int pd, .int (-pb), .int (-pc), .int pa]), v10, some (.ref mk), some (.ref as), some (.ref lh), some (.ref na), v15, v16, some (.int up), some (.int dn), v19, v20, v21, v22, v23]) :: (cF, .cell o1) :: (cW, .cell o2) :: R) := by
  have G := W.G
  have hA := hr.hd
  have hmid : euc up dn = midF pa pb pc pd xs := by rw [← hup, ← hdn]; rfl
  have htop := hL.top ha hb hc hd
  have hu1 : up.natAbs < 2 ^ 25 := by rw [← hup]; exact htop.1
  have hd1 : dn.natAbs < 2 ^ 25 := by rw [← hdn]; exact htop.2
  refine wps_cons ?_
  repeat walk_at "s"
  refine sp_euclid W (hr.mono (by decide)) (Nat.lt_of_lt_of_le hu1 (Nat.pow_le_pow_right (by decide) (by decide))) (Nat.lt_of_lt_of_le hd1 (Nat.pow_le_pow_right (by decide) (by decide))) ?_
  intro rl
  rw [hmid]
  refine store_local FE (by walk_at "upd") (by walk_at "put") ?_
  refine wps_next ?_
  refine WP.sub (H' := (L, _) :: (cF, _) :: (cW, _) :: (rl, _) :: R) (.pick (.tail .head) (.pick (.tail .head) (.pick (.tail .head) (.refl _)))) ?_
  have bs : ∀ t ∈ xs ++ midF pa pb pc pd xs, t.natAbs < 2 ^ 30 := fun t h => by
    rcases List.mem_append.mp h with h | h
    · exact Nat.lt_trans (hL.sm t h) (by decide)
    · exact Nat.lt_trans (mid_sm hL ha hb hc hd t h) (by decide)
  have bd : ∀ t ∈ dueF xs, t.natAbs < 2 ^ 30 := fun t h => Nat.lt_trans (due_sm xs hL.sm t h) (by decide)
  exact part12 (R := (rl, _) :: R) W hr hfr hfL hkd FE (Nat.lt_trans hu1 (by decide)) (Nat.lt_trans hd1 (by decide)) (.tail _ hx) (.head _) bs bd (Nat.le_trans hL.len (by decide)) (Nat.le_trans (mid_len hL ha hb hc hd) (by decide)) hT.tl (.tail _ hm) (.tail _ hn) (.tail _ ht) zm zt ha hb hc hd (.tail _ has) (.tail _ ha1) (.tail _ ha2) (.tail _ hlh) (.tail _ hq1) (.tail _ hq2) (.tail _ hcm)
theorem part10 {v0 v1 v2 v10 v17 v18 v19 v20 v21 v22 v23 : Option V} {o1 o2 : Option V} {pa pb pc pd : Int} {tl mk na as a1 a2 lh q1 q2 cm : Addr} {xs : List Int} {tx mks : List Nat} (W : W3 C a) (hr : Room A 140) (hfr : A.frames = some [env]) (hfL : env.frame = some L) (hkd : env.scope.kind ≠ .module)
    (FE : FEnv env L lawL [("four", cF), ("row", cW), ("text", cT), ("number", cN)] lawG) (hL : TermsOk xs) (hx : (tl, AO.list (intVs xs)) ∈ R)
    (hT : TabsL a R) (hm : (mk, AO.list (natVs mks)) ∈ R) (hn : (na, AO.list (ntV ((mks ++ [tx.length, tx.length]).map (noteT tx)))) ∈ R) (ht : (cT, AO.cell (some (.str (mkS tx)))) ∈ R)
    (zm : mks.length ≤ 1000) (zt : tx.length ≤ 90000) (ha : pa.natAbs < 6) (hb : pb.natAbs < 6) (hc : pc.natAbs < 6) (hd : pd.natAbs < 6) (has : (as, AO.list [.ref a1, .ref a2]) ∈ R) (ha1 : (a1, AO.list (natVs (cntL pa pb pc pd xs))) ∈ R) (ha2 : (a2, AO.list (natVs (cntL pd (-pb) (-pc) pa (midF pa pb pc pd xs)))) ∈ R)
    (hlh : (lh, AO.list [.ref q1, .ref q2, .ref cm]) ∈ R) (hq1 : (q1, pbA xs) ∈ R) (hq2 : (q2, pbA (midF pa pb pc pd xs)) ∈ R) (hcm : (cm, AO.list (owV (owL xs))) ∈ R) :
    WPS C A env (LB.drop 10) (QL a) ((L, .ns lawL [v0, v1, v2, some (.ref tl), some (.int pa), some (.int pb), some (.int pc), some (.int pd), some (.tup [.int pa, .int pb, .int pc, .int pd]), some (.tup [.int pd, .int (-pb), .int (-pc), .int pa]), v10, some (.ref mk), some (.ref as), some (.ref lh), some (.ref na), some (.int (fracF xs).1), some (.int (fracF xs).2), v17, v18, v19, v20, v21, v22, v23]) :: (cF, .cell o1) :: (cW, .cell o2) :: R) := by
  have G := W.G
  have hA := hr.hd
  have mk6 : ∀ {p x : Int}, p.natAbs < 6 → x.natAbs < 2 ^ 21 → IntMulOk p x := fun h1 h2 => mulOk (k := 3) (l := 21) (Nat.lt_trans h1 (by decide)) h2 (by decide)
  refine wps_cons ?_
  refine wp1_swap2 FE hA (by walk_at "mem") (by walk_at "mem") ?_
  repeat walk_at "s"
  refine op_mul_int (mk6 ha hL.f1) ?_
  repeat walk_at "s"
  refine op_mul_int (mk6 hb hL.f2) ?_
  repeat walk_at "s"
  refine op_mul_int (mk6 hc hL.f1) ?_
  repeat walk_at "s"
  refine op_mul_int (mk6 hd hL.f2) ?_
  walk_at "s"
  refine store_local FE (by walk_at "upd") (by walk_at "put") ?_
  refine store_local FE (by walk_at "upd") (by walk_at "put") ?_
  refine wps_next ?_
  refine part11 W hr hfr hfL hkd FE hL hx hT hm hn ht zm zt ha hb hc hd has ha1 ha2 hlh hq1 hq2 hcm rfl rfl
theorem part9 {v0 v1 v2 v10 v15 v16 v17 v18 v19 v20 v21 v22 v23 : Option V} {o1 o2 : Option V} {pa pb pc pd : Int} {tl mk na as a1 a2 lh q1 q2 cm : Addr} {xs : List Int} {tx mks : List Nat} (W : W3 C a) (hr : Room A 140) (hfr : A.frames = some [env]) (hfL : env.frame = some L) (hkd : env.scope.kind ≠ .module)
    (FE : FEnv env L lawL [("four", cF), ("row", cW), ("text", cT), ("number", cN)] lawG) (hL : TermsOk xs) (hx : (tl, AO.list (intVs xs)) ∈ R)
    (hT : TabsL a R) (hm : (mk, AO.list (natVs mks)) ∈ R) (hn : (na, AO.list (ntV ((mks ++ [tx.length, tx.length]).map (noteT tx)))) ∈ R) (ht : (cT, AO.cell (some (.str (mkS tx)))) ∈ R)
    (zm : mks.length ≤ 1000) (zt : tx.length ≤ 90000) (ha : pa.natAbs < 6) (hb : pb.natAbs < 6) (hc : pc.natAbs < 6) (hd : pd.natAbs < 6) (has : (as, AO.list [.ref a1, .ref a2]) ∈ R) (ha1 : (a1, AO.list (natVs (cntL pa pb pc pd xs))) ∈ R) (ha2 : (a2, AO.list (natVs (cntL pd (-pb) (-pc) pa (midF pa pb pc pd xs)))) ∈ R)
    (hlh : (lh, AO.list [.ref q1, .ref q2, .ref cm]) ∈ R) (hq1 : (q1, pbA xs) ∈ R) (hq2 : (q2, pbA (midF pa pb pc pd xs)) ∈ R) (hcm : (cm, AO.list (owV (owL xs))) ∈ R) :
    WPS C A env (LB.drop 9) (QL a) ((L, .ns lawL [v0, v1, v2, some (.ref tl), some (.int pa), some (.int pb), some (.int pc), some (.int pd), some (.tup [.int pa, .int pb, .int pc, .int pd]), some (.tup [.int pd, .int (-pb), .int (-pc), .int pa]), v10, some (.ref mk), some (.ref as), some (.ref lh), some (.ref na), v15, v16, v17, v18, v19, v20, v21, v22, v23]) :: (cF, .cell o1) :: (cW, .cell o2) :: R) := by
  have G := W.G
  have hA := hr.hd
  refine wps_cons ?_
  refine wp1_Assign ?_
  repeat walk_at "s"
  refine sp_fraction W (hr.mono (by decide)) (by walk_at "mem") (fun t h => Nat.lt_trans (hL.sm t h) (by decide)) (Nat.le_trans hL.len (by decide)) ?_
  refine asg_Tuple hA (wpas_cons (asg_Name ?_))
  refine store_local FE (by walk_at "upd") (by walk_at "put") ?_
  refine wpas_cons (asg_Name ?_)
  refine store_local FE (by walk_at "upd") (by walk_at "put") ?_
  refine wpas_nil ?_
  refine wps_next ?_
  refine part10 W hr hfr hfL hkd FE hL hx hT hm hn ht zm zt ha hb hc hd has ha1 ha2 hlh hq1 hq2 hcm
end
end
noncomputable section
theorem nat_get {l : List Nat} {i : Nat} (h : i < l.length) : (natVs l)[i]? = some (V.int (l[i] : Nat)) := by rw [List.getElem?_map, List.getElem?_eq_getElem h]; rfl
theorem tx_len {xs : List Int} (hL : TermsOk xs) (cs : List Nat) (en : Nat) : (txL (zws xs) cs en).flatten.length ≤ 80000 := by
  have h := txL_le (ws := zws xs) (cs := cs) (en := en) (fun w hw => by
    obtain ⟨z, hz, rfl⟩ := List.mem_map.mp hw
    exact Nat.le_trans (zw_len (Nat.lt_trans (hL.sm z hz) (by decide))) (by decide)) (zws xs).length
  have hl := hL.len
  rw [List.take_of_length_le (by rw [txL_len]; exact Nat.le_refl _), List.length_map] at h
  lia
section
variable {C : Cfg} {a : Ad} {A : Around} {R : AH} {env : Env} {L cF cW cT cN : Addr}
theorem part8 {v0 v1 v2 v10 v12 v13 v14 v15 v16 v17 v18 v19 v20 v21 v22 v23 : Option V} {o1 o2 : Option V} {pa pb pc pd : Int} {tl mk : Addr} {xs : List Int} {cs : List Nat} {en : Nat} (W : W3 C a) (hr : Room A 140) (hfr : A.frames = some [env]) (hfL : env.frame = some L) (hkd : env.scope.kind ≠ .module)
    (FE : FEnv env L lawL [("four", cF), ("row", cW), ("text", cT), ("number", cN)] lawG) (hL : TermsOk xs) (hx : (tl, AO.list (intVs xs)) ∈ R) (hT : TabsL a R) (hm : (mk, AO.list (natVs (mkL (zws xs) cs en))) ∈ R) (ht : (cT, AO.cell (some (.str (mkS (txL (zws xs) cs en).flatten)))) ∈ R) (ha : pa.natAbs < 6) (hb : pb.natAbs < 6) (hc : pc.natAbs < 6) (hd : pd.natAbs < 6) (hdet : pa * pd ≠ pb * pc) :
    WPS C A env (LB.drop 8) (QL a) ((L, .ns lawL [v0, v1, v2, some (.ref tl), some (.int pa), some (.int pb), some (.int pc), some (.int pd), some (.tup [.int pa, .int pb, .int pc, .int pd]), some (.tup [.int pd, .int (-pb), .int (-pc), .int pa]), v10, some (.ref mk), v12, v13, v14, v15, v16, v17, v18, v19, v20, v21, v22, v23]) :: (cF, .cell o1) :: (cW, .cell o2) :: R) := by
  have G := W.G
  have hA := hr.hd
  have hz := tx_len hL cs en
  have hzm : (mkL (zws xs) cs en).length ≤ 1000 := by rw [mkL_len, List.length_map]; exact Nat.le_trans hL.len (by decide)
  obtain ⟨N, mb, zf, ws, w1, w2, e9, ch, st1, st2, e1, e2, e3, e4, e5, e6⟩ := run_ok (cs := cs) (en := en) hL ha hb hc hd hdet
  refine wps_cons ?_
  refine wp1_Assign ?_
  repeat walk_at "s"
  refine sp_run W hr hfr (Stk.cons (fun zz h => nomatch h) hkd hfL) (hT.tl.tl.tl.tabs) (hT.tl.tl.tl.st) (hT.tl.tl.tl.ma) (hT.tl.tl.tl.ru) hz e9 ch st1 st2 ?_
  intro la lh nt ak1 ak2 hd1 hd2 cm
  rw [e1, e2, e3, e4, e5, e6]
  refine asg_Tuple hA (wpas_cons (asg_Name ?_))
  refine store_local FE (by walk_at "upd") (by walk_at "put") ?_
  refine wpas_cons (asg_Name ?_)
  refine store_local FE (by walk_at "upd") (by walk_at "put") ?_
  refine wpas_cons (asg_Name ?_)
  refine store_local FE (by walk_at "upd") (by walk_at "put") ?_
  refine wpas_nil ?_
  refine wps_next ?_
  refine WP.sub (H' := (L, _) :: (cF, _) :: (cW, _) :: (la, _) :: (lh, _) :: (ak1, _) :: (ak2, _) :: (hd1, _) :: (hd2, _) :: (cm, _) :: (nt, _) :: R) (.pick (.tail (.tail (.tail (.tail (.tail (.tail (.tail (.tail .head)))))))) (.pick (.tail (.tail (.tail (.tail (.tail (.tail (.tail (.tail .head)))))))) (.pick (.tail (.tail (.tail (.tail (.tail (.tail (.tail (.tail .head)))))))) (.refl _)))) ?_
  have up8 : ∀ {p} {x1 x2 x3 x4 x5 x6 x7 x8 : Addr × AO}, p ∈ R → p ∈ x1 :: x2 :: x3 :: x4 :: x5 :: x6 :: x7 :: x8 :: R := fun h => .tail _ (.tail _ (.tail _ (.tail _ (.tail _ (.tail _ (.tail _ (.tail _ h)))))))
  exact part9 (R := (la, _) :: (lh, _) :: (ak1, _) :: (ak2, _) :: (hd1, _) :: (hd2, _) :: (cm, _) :: (nt, _) :: R) (tx := (txL (zws xs) cs en).flatten) (mks := mkL (zws xs) cs en) W hr hfr hfL hkd FE hL (up8 hx) (hT.to fun p h => up8 h) (up8 hm) (.tail _ (.tail _ (.tail _ (.tail _ (.tail _ (.tail _ (.tail _ (.head _)))))))) (up8 ht) hzm (Nat.le_trans hz (by decide)) ha hb hc hd (.head _) (.tail _ (.tail _ (.head _))) (.tail _ (.tail _ (.tail _ (.head _)))) (.tail _ (.head _)) (.tail _ (.tail _ (.tail _ (.tail _ (.head _))))) (.tail _ (.tail _ (.tail _ (.tail _ (.tail _ (.head _)))))) (.tail _ (.tail _ (.tail _ (.tail _ (.tail _ (.tail _ (.head _)))))))
theorem part7 {v0 v1 v10 v11 v12 v13 v14 v15 v16 v17 v18 v19 v20 v21 v22 v23 : Option V} {o1 o2 o3 : Option V} {pa pb pc pd : Int} {tl cl : Addr} {xs : List Int} {cells : List Nat} (W : W3 C a) (hr : Room A 140) (hfr : A.frames = some [env]) (hfL : env.frame = some L) (hkd : env.scope.kind ≠ .module)
    (FE : FEnv env L lawL [("four", cF), ("row", cW), ("text", cT), ("number", cN)] lawG) (hL : TermsOk xs) (hx : (tl, AO.list (intVs xs)) ∈ R) (hcl : (cl, AO.list (natVs cells)) ∈ R) (h16 : cells.length = 16) (hT : TabsL a R) (ha : pa.natAbs < 6) (hb : pb.natAbs < 6) (hc : pc.natAbs < 6) (hd : pd.natAbs < 6) (hdet : pa * pd ≠ pb * pc) :
    WPS C A env (LB.drop 7) (QL a) ((L, .ns lawL [v0, v1, some (.ref cl), some (.ref tl), some (.int pa), some (.int pb), some (.int pc), some (.int pd), some (.tup [.int pa, .int pb, .int pc, .int pd]), some (.tup [.int pd, .int (-pb), .int (-pc), .int pa]), v10, v11, v12, v13, v14, v15, v16, v17, v18, v19, v20, v21, v22, v23]) :: (cF, .cell o1) :: (cW, .cell o2) :: (cT, .cell o3) :: R) := by
  have G := W.G
  have hA := hr.hd
  have hl := hL.len
  have FE0 := FE
  refine wps_cons ?_
  refine wp1_Assign ?_
  repeat walk_at "s"
  refine wp_LC (ln' := ["term"]) (gn' := ["_law_word", "Int2AP"]) (fs := []) (cs := []) FE (by kernel_rfl) (List.forall_mem_nil _) ?_
  refine wpi_value ?_
  repeat walk_at "s"
  refine pi_list hA (by walk_at "mem") ?_
  intro wl c cenv FE
  replace FE : FEnv cenv c ["term"] [] ["_law_word", "Int2AP"] := FE
  refine turns_mapL (l := xs) (g := V.int) (f := fun z => .str (mkS (zw z))) FE (by lia) (fun i k o acc h => listItem_some (by walk_at "mem") (by rw [List.getElem?_map, h]; rfl)) (fun o acc => listItem_none (by walk_at "mem") (by simp)) (fun z hz acc => ?_) fun o => ?_
  · have hb := hL.sm z hz
    repeat walk_at "s"
    refine sp_Int2AP W (hr.mono (by decide)) (Nat.lt_trans hb (by decide)) ?_
    repeat walk_at "s"
    refine sp_wordB W (hr.mono (by decide)) (by rw [List.size_toArray]; exact Nat.le_trans (apL_len 100 _ (Nat.lt_trans hb (by decide))) (by decide)) ?_
    exact ⟨rfl, .refl _⟩
  have FE := FE0
  have ew : xs.map (fun z => V.str (mkS (zw z))) = strVs (zws xs) := by rw [strVs, zws, List.map_map]; rfl
  rw [ew]
  repeat walk_at "s"
  refine ⟨_, _, .head, ?_⟩
  repeat walk_at "s"
  refine gs_list (by walk_at "mem") (by decide) (by rw [List.length_map, h16]; decide) ?_
  intro sc
  have e1 : pySlice (natVs cells) (some 10) (some 14) none = natVs ((cells.take 14).drop 10) := (pySlice_mid (p := 10) (q := 14) _).trans (by simp)
  rw [e1]
  have hsc : ((cells.take 14).drop 10).length = 4 := by rw [List.length_drop, List.length_take, h16]; rfl
  generalize (cells.take 14).drop 10 = cs at hsc ⊢
  repeat walk_at "s"
  refine gi_list (v := .int (cells[15] : Nat)) (by walk_at "mem") (by decide) (nat_get (by rw [h16]; decide)) (by rw [List.length_map, h16]; decide) ?_
  repeat walk_at "s"
  refine op_mod_int (by decide) ?_
  rw [show ((cells[15] : Nat) : Int).fmod 3 = ((cells[15] % 3 : Nat) : Int) from fmod_nat _ 3]
  have hen : cells[15] % 3 < 3 := Nat.mod_lt _ (by decide)
  generalize cells[15] % 3 = en at hen ⊢
  repeat walk_at "s"
  refine sp_text (ws := zws xs) W (hr.mono (by decide)) (by walk_at "mem") (by walk_at "mem") (by rw [List.length_map]; lia) (by rw [List.length_map]; lia) (by lia) (fun w hw => ?_) hen ?_
  · obtain ⟨z, hz, rfl⟩ := List.mem_map.mp hw
    exact Nat.le_trans (zw_len (Nat.lt_trans (hL.sm z hz) (by decide))) (by decide)
  intro mk
  refine asg_Tuple hA (wpas_cons (asg_Name ?_))
  refine store_cell FE (x := "text") (by walk_at "mem") (by walk_at "upd") ?_
  refine wpas_cons (asg_Name ?_)
  refine store_local FE (by walk_at "upd") (by walk_at "put") ?_
  refine wpas_nil ?_
  refine wps_next ?_
  refine WP.sub (H' := (L, _) :: (cF, _) :: (cW, _) :: (cT, _) :: (mk, _) :: R) (.pick (.tail (.tail (.tail .head))) (.pick (.tail (.tail (.tail .head))) (.pick (.tail (.tail (.tail .head))) (.pick (.tail (.tail (.tail .head))) (.pick .head (.drop (.drop (.refl _)))))))) ?_
  exact part8 (R := (cT, _) :: (mk, _) :: R) (cs := cs) (en := en) W hr hfr hfL hkd FE hL (.tail _ (.tail _ hx)) hT.tl.tl (.tail _ (.head _)) (.head _) ha hb hc hd hdet
end
end
noncomputable section
section
variable {C : Cfg} {a : Ad} {A : Around} {R : AH} {env : Env} {L cF cW cT cN : Addr}
theorem part6 {v0 v1 v8 v9 v10 v11 v12 v13 v14 v15 v16 v17 v18 v19 v20 v21 v22 v23 : Option V} {o1 o2 o3 : Option V} {pa pb pc pd : Int} {tl cl : Addr} {xs : List Int} {cells : List Nat} (W : W3 C a) (hr : Room A 140) (hfr : A.frames = some [env]) (hfL : env.frame = some L) (hkd : env.scope.kind ≠ .module)
    (FE : FEnv env L lawL [("four", cF), ("row", cW), ("text", cT), ("number", cN)] lawG) (hL : TermsOk xs) (hx : (tl, AO.list (intVs xs)) ∈ R) (hcl : (cl, AO.list (natVs cells)) ∈ R) (h16 : cells.length = 16) (hT : TabsL a R) (ha : pa.natAbs < 6) (hb : pb.natAbs < 6) (hc : pc.natAbs < 6) (hd : pd.natAbs < 6) (hdet : pa * pd ≠ pb * pc) :
    WPS C A env (LB.drop 6) (QL a) ((L, .ns lawL [v0, v1, some (.ref cl), some (.ref tl), some (.int pa), some (.int pb), some (.int pc), some (.int pd), v8, v9, v10, v11, v12, v13, v14, v15, v16, v17, v18, v19, v20, v21, v22, v23]) :: (cF, .cell o1) :: (cW, .cell o2) :: (cT, .cell o3) :: R) := by
  have G := W.G
  have hA := hr.hd
  refine wps_cons ?_
  refine wp1_swap2 FE hA (by walk_at "mem") (by walk_at "mem") (WP.pin (.tup [.int pa, .int pb, .int pc, .int pd]) ?_ (WP.pin (.tup [.int pd, .int (-pb), .int (-pc), .int pa]) ?_ ?_))
  · repeat walk_at "s"
    exact ⟨rfl, .refl _⟩
  · repeat walk_at "s"
    exact ⟨rfl, .refl _⟩
  refine store_local FE (by walk_at "upd") (by walk_at "put") ?_
  refine store_local FE (by walk_at "upd") (by walk_at "put") ?_
  refine wps_next ?_
  exact part7 W hr hfr hfL hkd FE hL hx hcl h16 hT ha hb hc hd hdet
theorem part5 {v0 v1 v8 v9 v10 v11 v12 v13 v14 v15 v16 v17 v18 v19 v20 v21 v22 v23 : Option V} {o1 o2 o3 : Option V} {pa pb pc pd : Int} {tl cl : Addr} {xs : List Int} {cells : List Nat} (W : W3 C a) (hr : Room A 140) (hfr : A.frames = some [env]) (hfL : env.frame = some L) (hkd : env.scope.kind ≠ .module)
    (FE : FEnv env L lawL [("four", cF), ("row", cW), ("text", cT), ("number", cN)] lawG) (hL : TermsOk xs) (hx : (tl, AO.list (intVs xs)) ∈ R) (hcl : (cl, AO.list (natVs cells)) ∈ R) (h16 : cells.length = 16) (hT : TabsL a R) (ha : pa.natAbs < 6) (hb : pb.natAbs < 6) (hc : pc.natAbs < 6) (hd : pd.natAbs < 6) :
    WPS C A env (LB.drop 5) (QL a) ((L, .ns lawL [v0, v1, some (.ref cl), some (.ref tl), some (.int pa), some (.int pb), some (.int pc), some (.int pd), v8, v9, v10, v11, v12, v13, v14, v15, v16, v17, v18, v19, v20, v21, v22, v23]) :: (cF, .cell o1) :: (cW, .cell o2) :: (cT, .cell o3) :: R) := by
  have G := W.G
  have hA := hr.hd
  have m6 : ∀ {p x : Int}, p.natAbs < 6 → x.natAbs < 6 → IntMulOk p x := fun h1 h2 => mulOk (k := 3) (l := 3) (Nat.lt_trans h1 (by decide)) (Nat.lt_trans h2 (by decide)) (by decide)
  refine wps_cons ?_
  refine wp1_If ?_
  repeat walk_at "s"
  refine op_mul_int (m6 ha hd) ?_
  repeat walk_at "s"
  refine op_mul_int (m6 hb hc) ?_
  repeat walk_at "s"
  by_cases hdet : pa * pd = pb * pc
  · refine ⟨fun zz => ?_, fun h => absurd hdet (by simpa using h)⟩
    refine wps_cons ?_
    refine wp1_Assign ?_ (hw := by exact swap_const (by decide +kernel))
    repeat walk_at "s"
    refine asg_Tuple hA (wpas_cons (asg_Name ?_))
    refine store_local FE (by walk_at "upd") (by walk_at "put") ?_
    refine wpas_cons (asg_Name ?_)
    refine store_local FE (by walk_at "upd") (by walk_at "put") ?_
    refine wpas_cons (asg_Name ?_)
    refine store_local FE (by walk_at "upd") (by walk_at "put") ?_
    refine wpas_nil ?_
    refine wps_next ?_
    refine wps_nil ?_
    refine wps_next ?_
    exact part6 W hr hfr hfL hkd FE hL hx hcl h16 hT (by decide) hb (by decide) (by decide) (by lia)
  · refine ⟨fun h => absurd (by simpa using h) hdet, fun zz => ?_⟩
    refine wps_nil ?_
    refine wps_next ?_
    exact part6 W hr hfr hfL hkd FE hL hx hcl h16 hT ha hb hc hd hdet
theorem part4 {v0 v1 v4 v5 v6 v7 v8 v9 v10 v11 v12 v13 v14 v15 v16 v17 v18 v19 v20 v21 v22 v23 : Option V} {o1 o2 o3 : Option V} {tl cl : Addr} {xs : List Int} {cells : List Nat} (W : W3 C a) (hr : Room A 140) (hfr : A.frames = some [env]) (hfL : env.frame = some L) (hkd : env.scope.kind ≠ .module)
    (FE : FEnv env L lawL [("four", cF), ("row", cW), ("text", cT), ("number", cN)] lawG) (hL : TermsOk xs) (hx : (tl, AO.list (intVs xs)) ∈ R) (hcl : (cl, AO.list (natVs cells)) ∈ R) (h16 : cells.length = 16) (hT : TabsL a R) :
    WPS C A env (LB.drop 4) (QL a) ((L, .ns lawL [v0, v1, some (.ref cl), some (.ref tl), v4, v5, v6, v7, v8, v9, v10, v11, v12, v13, v14, v15, v16, v17, v18, v19, v20, v21, v22, v23]) :: (cF, .cell o1) :: (cW, .cell o2) :: (cT, .cell o3) :: R) := by
  have G := W.G
  have hA := hr.hd
  have FE0 := FE
  refine wps_cons ?_
  refine wp1_Assign ?_
  refine wp_LC (ln' := ["cell"]) (gn' := []) (fs := []) (cs := []) FE (by kernel_rfl) (List.forall_mem_nil _) ?_
  refine wpi_value ?_
  repeat walk_at "s"
  refine gs_list (by walk_at "mem") (by decide) (by rw [List.length_map, h16]; decide) ?_
  intro sc
  have e1 : pySlice (natVs cells) (some 6) (some 10) none = natVs ((cells.take 10).drop 6) := (pySlice_mid (p := 6) (q := 10) _).trans (by simp)
  rw [e1]
  have hsc : ((cells.take 10).drop 6).length = 4 := by rw [List.length_drop, List.length_take, h16]; rfl
  generalize (cells.take 10).drop 6 = cs at hsc ⊢
  refine pi_list hA (.head _) ?_
  intro wl c cenv FE
  replace FE : FEnv cenv c ["cell"] [] [] := FE
  refine turns_mapL (l := cs) (g := fun (n : Nat) => V.int (n : Nat)) (f := fun (n : Nat) => .int (((n % 11 : Nat) : Int) - 5)) FE (by lia) (fun i k o acc h => listItem_some (by walk_at "mem") (by rw [List.getElem?_map, h]; rfl)) (fun o acc => listItem_none (by walk_at "mem") (by simp)) (fun n hn acc => ?_) fun o => ?_
  · repeat walk_at "s"
    refine op_mod_int (by decide) ?_
    rw [show ((n : Nat) : Int).fmod 11 = ((n % 11 : Nat) : Int) from fmod_nat _ 11]
    repeat walk_at "s"
    exact ⟨rfl, .refl _⟩
  have FE := FE0
  obtain ⟨x1, x2, x3, x4, rfl⟩ : ∃ x1 x2 x3 x4, cs = [x1, x2, x3, x4] := by
    match cs, hsc with
    | [x1, x2, x3, x4], _ => exact ⟨x1, x2, x3, x4, rfl⟩
  simp only [List.map_cons, List.map_nil]
  refine ⟨_, _, .head, ?_⟩
  refine asg_TupleL hA (.head _) (wpas_cons (asg_Name ?_))
  refine store_local FE (by walk_at "upd") (by walk_at "put") ?_
  refine wpas_cons (asg_Name ?_)
  refine store_local FE (by walk_at "upd") (by walk_at "put") ?_
  refine wpas_cons (asg_Name ?_)
  refine store_local FE (by walk_at "upd") (by walk_at "put") ?_
  refine wpas_cons (asg_Name ?_)
  refine store_local FE (by walk_at "upd") (by walk_at "put") ?_
  refine wpas_nil ?_
  refine wps_next ?_
  refine WP.sub (.drop (.drop (.refl _))) ?_
  exact part5 W hr hfr hfL hkd FE hL hx hcl h16 hT (m11 _) (m11 _) (m11 _) (m11 _)
end
end
noncomputable section
theorem pow_nat (a k : Nat) : ((a : Int) ^ (((k : Nat) : Int)).toNat) = ((a ^ k : Nat) : Int) := by rw [Int.toNat_natCast]; push_cast; rfl
noncomputable abbrev termsF (c1 : Nat) (cs : List Nat) : List Int := (((c1 % 25 : Nat) : Int) - 12) :: cs.map fun (n : Nat) => 1 + ((n % 7 : Nat) : Int)
theorem terms_ok {c1 : Nat} {cs : List Nat} (h : cs.length ≤ 3) : TermsOk (termsF c1 cs) := by
  refine ⟨by simp, by simpa using h, fun t ht => ?_, fun t ht => ?_⟩
  · rcases List.mem_cons.mp ht with rfl | ht
    · omega
    · obtain ⟨n, _, rfl⟩ := List.mem_map.mp ht; omega
  · obtain ⟨n, _, rfl⟩ := List.mem_map.mp ht; exact Int.le.intro (n % 7) rfl
section
variable {C : Cfg} {a : Ad} {A : Around} {R : AH} {env : Env} {L cF cW cT cN : Addr}
theorem part3 {v0 v1 v3 v4 v5 v6 v7 v8 v9 v10 v11 v12 v13 v14 v15 v16 v17 v18 v19 v20 v21 v22 v23 : Option V} {o1 o2 o3 : Option V} {cl : Addr} {cells : List Nat} (W : W3 C a) (hr : Room A 140) (hfr : A.frames = some [env]) (hfL : env.frame = some L) (hkd : env.scope.kind ≠ .module)
    (FE : FEnv env L lawL [("four", cF), ("row", cW), ("text", cT), ("number", cN)] lawG) (hcl : (cl, AO.list (natVs cells)) ∈ R) (h16 : cells.length = 16) (hT : TabsL a R) :
    WPS C A env (LB.drop 3) (QL a) ((L, .ns lawL [v0, v1, some (.ref cl), v3, v4, v5, v6, v7, v8, v9, v10, v11, v12, v13, v14, v15, v16, v17, v18, v19, v20, v21, v22, v23]) :: (cF, .cell o1) :: (cW, .cell o2) :: (cT, .cell o3) :: R) := by
  have G := W.G
  have hA := hr.hd
  have FE0 := FE
  refine wps_cons ?_
  repeat walk_at "s"
  refine gi_list (v := .int (cells[1] : Nat)) (by walk_at "mem") (by decide) (nat_get (by rw [h16]; decide)) (by rw [List.length_map, h16]; decide) ?_
  repeat walk_at "s"
  refine op_mod_int (by decide) ?_
  rw [show ((cells[1] : Nat) : Int).fmod 25 = ((cells[1] % 25 : Nat) : Int) from fmod_nat _ 25]
  repeat walk_at "s"
  intro l1
  refine wp_LC (ln' := ["cell"]) (gn' := []) (fs := []) (cs := []) FE (by kernel_rfl) (List.forall_mem_nil _) ?_
  refine wpi_value ?_
  repeat walk_at "s"
  refine gi_list (v := .int (cells[0] : Nat)) (by walk_at "mem") (by decide) (nat_get (by exact Nat.lt_of_sub_eq_succ h16)) (by rw [List.length_map, h16]; decide) ?_
  repeat walk_at "s"
  refine op_mod_int (by decide) ?_
  rw [show ((cells[0] : Nat) : Int).fmod 4 = ((cells[0] % 4 : Nat) : Int) from fmod_nat _ 4]
  repeat walk_at "s"
  rw [show (2 : Int) + ((cells[0] % 4 : Nat) : Int) = ((2 + cells[0] % 4 : Nat) : Int) from by push_cast; rfl]
  refine gs_list (by walk_at "mem") (by decide) (by rw [List.length_map, h16]; decide) ?_
  intro sc
  have e1 : pySlice (natVs cells) (some 2) (some ((2 + cells[0] % 4 : Nat) : Int)) none = natVs ((cells.take (2 + cells[0] % 4)).drop 2) := (pySlice_mid (p := 2) (q := 2 + cells[0] % 4) _).trans (by simp)
  rw [e1]
  have hsc : ((cells.take (2 + cells[0] % 4)).drop 2).length ≤ 3 := by rw [List.length_drop, List.length_take]; exact Nat.sub_le_of_le_add (Nat.le_trans (Nat.min_le_left _ _) (Nat.add_le_add_left (m := 3) (Nat.le_of_lt_succ (Nat.mod_lt _ (by decide))) 2))
  generalize (cells.take (2 + cells[0] % 4)).drop 2 = cs at hsc ⊢
  generalize cells[1] = c1
  refine pi_list hA (.head _) ?_
  intro wl c cenv FE
  replace FE : FEnv cenv c ["cell"] [] [] := FE
  refine turns_mapL (l := cs) (g := fun (n : Nat) => V.int (n : Nat)) (f := fun (n : Nat) => .int (1 + ((n % 7 : Nat) : Int))) FE (by lia) (fun i k o acc h => listItem_some (by walk_at "mem") (by rw [List.getElem?_map, h]; rfl)) (fun o acc => listItem_none (by walk_at "mem") (by simp)) (fun n hn acc => ?_) fun o => ?_
  · repeat walk_at "s"
    refine op_mod_int (by decide) ?_
    rw [show ((n : Nat) : Int).fmod 7 = ((n % 7 : Nat) : Int) from fmod_nat _ 7]
    repeat walk_at "s"
    exact ⟨rfl, .refl _⟩
  have FE := FE0
  refine ⟨_, _, .head, ?_⟩
  refine op_add_list (vs := [.int (((c1 % 25 : Nat) : Int) - 12)]) (us := cs.map fun (n : Nat) => V.int (1 + ((n % 7 : Nat) : Int))) (by walk_at "mem") (.head _) (by rw [List.length_map]; simp; omega) ?_
  intro tl
  have e2 : [V.int (((c1 % 25 : Nat) : Int) - 12)] ++ cs.map (fun (n : Nat) => V.int (1 + ((n % 7 : Nat) : Int))) = intVs (termsF c1 cs) := by simp
  rw [e2]
  refine store_local FE (by walk_at "upd") (by walk_at "put") ?_
  refine wps_next ?_
  refine WP.sub (H' := (L, _) :: (cF, _) :: (cW, _) :: (cT, _) :: (tl, _) :: R) (.pick (.tail (.tail (.tail (.tail .head)))) (.pick (.tail (.tail (.tail (.tail .head)))) (.pick (.tail (.tail (.tail (.tail .head)))) (.pick (.tail (.tail (.tail (.tail .head)))) (.pick .head (.drop (.drop (.drop (.refl _))))))))) ?_
  exact part4 (R := (tl, _) :: R) W hr hfr hfL hkd FE (terms_ok hsc) (.head _) (.tail _ hcl) h16 hT.tl
theorem part2 {n : Nat} {v0 v1 v2 v3 v4 v5 v6 v7 v8 v9 v10 v11 v12 v13 v14 v15 v16 v17 v18 v19 v20 v21 v22 v23 : Option V} {o1 o2 o3 : Option V} (W : W3 C a) (hr : Room A 140) (hfr : A.frames = some [env]) (hfL : env.frame = some L) (hkd : env.scope.kind ≠ .module)
    (FE : FEnv env L lawL [("four", cF), ("row", cW), ("text", cT), ("number", cN)] lawG) (hn : n < 10 ^ 32) (hN : (cN, AO.cell (some (.int n))) ∈ R) (hT : TabsL a R) :
    WPS C A env (LB.drop 2) (QL a) ((L, .ns lawL [v0, v1, v2, v3, v4, v5, v6, v7, v8, v9, v10, v11, v12, v13, v14, v15, v16, v17, v18, v19, v20, v21, v22, v23]) :: (cF, .cell o1) :: (cW, .cell o2) :: (cT, .cell o3) :: R) := by
  have G := W.G
  have hA := hr.hd
  have FE0 := FE
  refine wps_cons (wp1_LC (ln' := ["k"]) (gn' := []) (fs := ["number"]) (cs := [cN]) FE (by kernel_rfl) (List.forall_mem_cons.mpr ⟨by walk_at "mem", List.forall_mem_nil _⟩) (by walk_at "mem") (by decide +kernel) ?_)
  refine wpi_Call ?_
  repeat walk_at "s"
  refine ci_range1 hA (by decide) ?_
  intro cl c cenv FE
  replace FE : FEnv cenv c ["k"] [("number", cN)] [] := FE
  refine turns_mapL (l := List.range 16) (g := fun k => .int (k : Nat)) (f := fun k => .int (n / 100 ^ k % 100 : Nat)) FE (by decide) (fun i k o acc h => range_item h) (fun o acc => range_end) (fun k hk acc => ?_) fun o => ?_
  · have hk6 : k < 16 := by simpa using hk
    repeat walk_at "s"
    refine op_pow_int (by omega) (by have : Builtin.Int.intBits 100 = 7 := by decide +kernel
                                     rw [this]; lia) ?_
    rw [show ((100 : Int) ^ ((k : Nat) : Int).toNat) = ((100 ^ k : Nat) : Int) from pow_nat 100 k]
    refine op_floordiv_int (by have := Nat.pow_pos (n := k) (show 0 < 100 by decide); exact Int.natCast_ne_zero_iff_pos.mpr this) (noPy (by rw [Int.natAbs_natCast]; exact Nat.lt_of_le_of_lt (Nat.pow_le_pow_right (by decide) (Nat.le_of_lt hk6)) (Nat.lt_of_lt_of_le (show 100 ^ 16 < 2 ^ 200 by decide) (Nat.pow_le_pow_right (by decide) (by decide))))) ?_
    rw [fdiv_nat]
    repeat walk_at "s"
    refine op_mod_int (by decide) ?_
    exact ⟨by rw [show ((n / 100 ^ k : Nat) : Int).fmod 100 = ((n / 100 ^ k % 100 : Nat) : Int) from fmod_nat _ 100], .refl _⟩
  have FE := FE0
  generalize hcs2 : (List.range 16).map (fun k => n / 100 ^ k % 100) = cs
  have hcs6 : cs.length = 16 := by rw [← hcs2]; simp
  have ecs : (List.range 16).map (fun k => V.int (n / 100 ^ k % 100 : Nat)) = natVs cs := by rw [← hcs2]; simp
  rw [ecs]
  refine store_local FE (by walk_at "upd") (by walk_at "put") ?_
  refine ⟨_, _, .head, ?_⟩
  refine wps_next ?_
  refine WP.sub (H' := (L, _) :: (cF, _) :: (cW, _) :: (cT, _) :: (cl, _) :: R) (.pick (.tail .head) (.pick (.tail .head) (.pick (.tail .head) (.pick (.tail .head) (.refl _))))) ?_
  exact part3 (R := (cl, _) :: R) W hr hfr hfL hkd FE (.head _) hcs6 hT.tl
end
inductive LwN (ms : List Int) (s1 cF cW cT cN L sl : Addr) (H : AH) (i : Nat) (H₁ : AH) : Prop
  | mk (h1 : i ≤ ms.length) (n : Nat) (o : Option V) (h2 : n < 10 ^ 32) (h3 : H₁ = (s1, .list (intVs ms)) :: (cF, .cell none) :: (cW, .cell none) :: (cT, .cell none) :: (cN, .cell (some (.int n))) :: (L, AO.ns lawL [some (.ref sl), o, none, none, none, none, none, none, none, none, none, none, none, none, none, none, none, none, none, none, none, none, none, none]) :: H) : LwN ms s1 cF cW cT cN L sl H i H₁
inductive LwM (cF cW cT cN L sl : Addr) (H : AH) (H₁ : AH) : Prop
  | mk (n : Nat) (o : Option V) (h1 : n < 10 ^ 32) (h2 : H₁ = (cF, .cell none) :: (cW, .cell none) :: (cT, .cell none) :: (cN, .cell (some (.int n))) :: (L, AO.ns lawL [some (.ref sl), o, none, none, none, none, none, none, none, none, none, none, none, none, none, none, none, none, none, none, none, none, none, none]) :: H) : LwM cF cW cT cN L sl H H₁
theorem sp_law {C : Cfg} {a : Ad} {A : Around} {aL sl : Addr} {cd : Value} {its : Array Value} {ns : List Int} {H : AH} (W : W3 C a) (hr : Room A 141) (hfr : A.frames = some []) (hF : FnAt C.B aL F_law cd) (hsl : C.B.IsList sl its) (hns : IntsAre its.toList ns) (hnz : ns.length ≤ 1000) (hT : TabsL a H) :
    CodeC C A aL [.ref sl] (fun v H' => v = .bool true ∧ TabsL a H') H := by
  have G := W.G
  refine code_okCF ok_law G (fun s R => hF.keeps R.keep) hr hfr rfl rfl rfl (vals := [some (.ref sl), none, none, none, none, none, none, none, none, none, none, none, none, none, none, none, none, none, none, none, none, none, none, none]) rfl (VOk.get (.some .head (.rest rfl))) fun L cs A' env hcs hr' hfr' hfL hkd FE he => ?_
  · obtain ⟨cF, cs1, rfl, hcs1⟩ := cells_cons hcs
    obtain ⟨cW, cT, cN, rfl⟩ := cells3 hcs1
    refine ⟨_, .other (.other (.other (.other .nil))), ?_⟩
    have hA := hr'.hd
    simp only [List.cons_append, List.nil_append]
    repeat walk_at "s"
    refine wp1_mid (LwM cF cW cT cN L sl H) ?_ ?_
    · refine wp1_For (wpi_value ?_)
      repeat walk_at "s"
      refine gs_base hsl hns (by decide) (by lia) ?_
      intro s1
      rw [show pySlice (intVs ns) none (some 60) none = intVs (ns.take 60) by rw [show (60 : Int) = ((60 : Nat) : Int) from rfl, pySlice_upto]; simp]
      generalize ns.take 60 = ms
      refine pi_list hA (by walk_at "mem") ?_
      refine ⟨LwN ms s1 cF cW cT cN L sl H, ms.length, ?_, ?_⟩
      · exact ⟨Nat.zero_le _, 95124768743335169247208156298459, none, by decide, rfl⟩
      · rintro i H₁ ⟨hi, n, o, hn, rfl⟩
        by_cases hlt : i < ms.length
        · left
          refine ⟨.int ms[i], hlt, ⟨intVs ms, by walk_at "mem", by simp [hlt]⟩, ?_⟩
          repeat walk_at "s"
          refine op_mul_int (mulOk (k := 10) (l := 250) (by decide) (by rw [Int.natAbs_natCast]; exact Nat.lt_trans hn (by decide)) (by decide)) ?_
          repeat walk_at "s"
          refine op_pow_int (by decide) (by decide) ?_
          refine op_mod_int (by decide +kernel) ?_
          have hp : (0 : Int) < (10 : Int) ^ (32 : Int).toNat := by decide +kernel
          have hm1 := Int.fmod_nonneg_of_pos (7 * (n : Int) + ms[i]) hp
          have hm2 := Int.fmod_lt_of_pos (7 * (n : Int) + ms[i]) hp
          generalize (7 * (n : Int) + ms[i]).fmod ((10 : Int) ^ (32 : Int).toNat) = z at hm1 hm2
          obtain ⟨m, rfl⟩ := Int.eq_ofNat_of_zero_le hm1
          have hmm : m < 10 ^ 32 := by
            have e : (10 : Int) ^ (32 : Int).toNat = ((10 ^ 32 : Nat) : Int) := by decide +kernel
            rw [e] at hm2
            exact Int.ofNat_lt.mp hm2
          repeat walk_at "s"
          exact ⟨hlt, m, some (.int ms[i]), hmm, rfl⟩
        · right
          have hi' : i = ms.length := by lia
          subst hi'
          refine ⟨⟨intVs ms, by walk_at "mem", by simp⟩, ?_⟩
          refine WP.sub (.drop (.refl _)) ?_
          repeat walk_at "s"
          exact ⟨rfl, n, o, hn, rfl⟩
    · rintro H₁ ⟨n, o, hn, rfl⟩
      refine WP.sub (H' := (L, _) :: (cF, _) :: (cW, _) :: (cT, _) :: (cN, _) :: H) (.pick (.tail (.tail (.tail (.tail .head)))) (.pick .head (.pick .head (.pick .head (.pick .head (.refl _)))))) ?_
      exact part2 (R := (cN, _) :: H) W hr' hfr' hfL hkd FE hn (.head _) hT.tl
end
noncomputable section
noncomputable def ad3 : Ad := { ap := 63, div2 := 21, i2d := 35, d2i := 42, dmp := 49, idm := 56, cls := 101, fInit := 77, fRead := 84, fGet := 91, fPush := 98, stream := 112, word := 117, own := 122, text := 127, settle := 134, give := 139, machine := 146, run := 151, fraction := 158, euclid := 165, alike := 170, divided := 177, pI2d := 30, pD2i := 37, pStream := 107, pMachine := 141, pRun := 148 }
noncomputable abbrev FnT := Option (Str × Arguments × FuncBody × Scope × List (Str × Addr) × Addr × Addr × Value × Value × Value)
noncomputable abbrev Look3 := List FnT × List Addr × List (Option Str) × List (Option (Option Value)) × List (Option Value) × List Bool × Option Int × Option Bool
noncomputable def chk3 (K : Frag) : Look3 := ([fnTup K 63, fnTup K 21, fnTup K 35, fnTup K 42, fnTup K 49, fnTup K 56, fnTup K 112, fnTup K 117, fnTup K 122, fnTup K 127, fnTup K 134, fnTup K 139, fnTup K 146, fnTup K 151, fnTup K 158, fnTup K 165, fnTup K 170, fnTup K 177, fnTup K 77, fnTup K 84, fnTup K 91, fnTup K 98, fnTup K 182], [codeAt K 63, codeAt K 21, codeAt K 35, codeAt K 42, codeAt K 49, codeAt K 56, codeAt K 112, codeAt K 117, codeAt K 122, codeAt K 127, codeAt K 134, codeAt K 139, codeAt K 146, codeAt K 151, codeAt K 158, codeAt K 165, codeAt K 170, codeAt K 177, codeAt K 77, codeAt K 84, codeAt K 91, codeAt K 98, codeAt K 182], [codeQ K 62, codeQ K 20, codeQ K 34, codeQ K 41, codeQ K 48, codeQ K 55, codeQ K 111, codeQ K 116, codeQ K 121, codeQ K 126, codeQ K 133, codeQ K 138, codeQ K 145, codeQ K 150, codeQ K 157, codeQ K 164, codeQ K 169, codeQ K 176, codeQ K 76, codeQ K 83, codeQ K 90, codeQ K 97, codeQ K 181], [nsIn K mainGlobals "int", nsIn K mainGlobals "abs", nsIn K mainGlobals "divmod", nsIn K mainGlobals "len", nsIn K mainGlobals "reversed", nsIn K mainGlobals "range", nsIn K mainGlobals "enumerate", nsIn K mainGlobals "list", nsIn K mainGlobals "chr", nsIn K mainGlobals "ord", nsIn K mainGlobals "iter", nsIn K mainGlobals "min", nsIn K mainGlobals "str", nsIn K mainGlobals "bytes", nsIn K mainGlobals "ZeroDivisionError", nsIn K mainGlobals "Int2AP", nsIn K mainGlobals "_div2n1n", nsIn K mainGlobals "_int2digits", nsIn K mainGlobals "_digits2int", nsIn K mainGlobals "_divmod_pos", nsIn K mainGlobals "int_divmod", nsIn K mainGlobals "_netrclex", nsIn K mainGlobals "_law_stream", nsIn K mainGlobals "_law_word", nsIn K mainGlobals "_law_own", nsIn K mainGlobals "_law_text", nsIn K mainGlobals "_law_settle", nsIn K mainGlobals "_law_give", nsIn K mainGlobals "_law_machine", nsIn K mainGlobals "_law_run", nsIn K mainGlobals "_law_fraction", nsIn K mainGlobals "_law_euclid", nsIn K mainGlobals "_law_alike", nsIn K mainGlobals "_law_divided", nsIn K mainGlobals "law", findIn K (.ref 101) "__setattr__", findIn K (.ref 101) "__init__", findIn K (.ref 101) "_read_char", specialIn K (.ref 84) "__get__", findIn K (.ref 101) "get_token", findIn K (.ref 101) "push_token", findIn K (.ref 101) "lineno", takerIn K 101 "lineno", findIn K (.ref 101) "instream", takerIn K 101 "instream", findIn K (.ref 101) "whitespace", takerIn K 101 "whitespace", findIn K (.ref 101) "pushback", takerIn K 101 "pushback"], [typeIn K (.ref 77)], [isFn K (.ref 84), isFn K (.ref 91), isFn K (.ref 98), plainGet K 101 "", hasDictIn K 101, plainOver K 101, makesIn K 101, keepIn K (.ref 101), noTabs K, codeHdIn K 34 30, codeHdIn K 41 37, codeHdIn K 111 107, codeHdIn K 145 141, codeHdIn K 150 148], intIn K "_DIV_LIMIT", takesIn K (.ref 84))
noncomputable def ok3 : Look3 := ([some (F_Int2AP.qual, F_Int2AP.params, F_Int2AP.body, F_Int2AP.scope, F_Int2AP.closure, mainGlobals, builtinsNs, .none, .none, .ref 62), some (F_div2n1n.qual, F_div2n1n.params, F_div2n1n.body, F_div2n1n.scope, F_div2n1n.closure, mainGlobals, builtinsNs, .none, .none, .ref 20), some (F_int2digits.qual, F_int2digits.params, F_int2digits.body, F_int2digits.scope, F_int2digits.closure, mainGlobals, builtinsNs, .none, .none, .ref 34), some (F_digits2int.qual, F_digits2int.params, F_digits2int.body, F_digits2int.scope, F_digits2int.closure, mainGlobals, builtinsNs, .none, .none, .ref 41), some (F_divmod_pos.qual, F_divmod_pos.params, F_divmod_pos.body, F_divmod_pos.scope, F_divmod_pos.closure, mainGlobals, builtinsNs, .none, .none, .ref 48), some (F_int_divmod.qual, F_int_divmod.params, F_int_divmod.body, F_int_divmod.scope, F_int_divmod.closure, mainGlobals, builtinsNs, .none, .none, .ref 55), some (F_stream.qual, F_stream.params, F_stream.body, F_stream.scope, F_stream.closure, mainGlobals, builtinsNs, .none, .none, .ref 111), some (F_word.qual, F_word.params, F_word.body, F_word.scope, F_word.closure, mainGlobals, builtinsNs, .none, .none, .ref 116), some (F_own.qual, F_own.params, F_own.body, F_own.scope, F_own.closure, mainGlobals, builtinsNs, .none, .none, .ref 121), some (F_text.qual, F_text.params, F_text.body, F_text.scope, F_text.closure, mainGlobals, builtinsNs, .none, .none, .ref 126), some (F_settle.qual, F_settle.params, F_settle.body, F_settle.scope, F_settle.closure, mainGlobals, builtinsNs, .none, .none, .ref 133), some (F_give.qual, F_give.params, F_give.body, F_give.scope, F_give.closure, mainGlobals, builtinsNs, .none, .none, .ref 138), some (F_machine.qual, F_machine.params, F_machine.body, F_machine.scope, F_machine.closure, mainGlobals, builtinsNs, .none, .none, .ref 145), some (F_run.qual, F_run.params, F_run.body, F_run.scope, F_run.closure, mainGlobals, builtinsNs, .none, .none, .ref 150), some (F_fraction.qual, F_fraction.params, F_fraction.body, F_fraction.scope, F_fraction.closure, mainGlobals, builtinsNs, .none, .none, .ref 157), some (F_euclid.qual, F_euclid.params, F_euclid.body, F_euclid.scope, F_euclid.closure, mainGlobals, builtinsNs, .none, .none, .ref 164), some (F_alike.qual, F_alike.params, F_alike.body, F_alike.scope, F_alike.closure, mainGlobals, builtinsNs, .none, .none, .ref 169), some (F_divided.qual, F_divided.params, F_divided.body, F_divided.scope, F_divided.closure, mainGlobals, builtinsNs, .none, .none, .ref 176), some (F_init.qual, F_init.params, F_init.body, F_init.scope, F_init.closure, mainGlobals, builtinsNs, .none, .none, .ref 76), some (F_read.qual, F_read.params, F_read.body, F_read.scope, F_read.closure, mainGlobals, builtinsNs, .none, .none, .ref 83), some (F_get.qual, F_get.params, F_get.body, F_get.scope, F_get.closure, mainGlobals, builtinsNs, .none, .none, .ref 90), some (F_push.qual, F_push.params, F_push.body, F_push.scope, F_push.closure, mainGlobals, builtinsNs, .none, .none, .ref 97), some (F_law.qual, F_law.params, F_law.body, F_law.scope, F_law.closure, mainGlobals, builtinsNs, .none, .none, .ref 181)], [62, 20, 34, 41, 48, 55, 111, 116, 121, 126, 133, 138, 145, 150, 157, 164, 169, 176, 76, 83, 90, 97, 181], [some F_Int2AP.qual, some F_div2n1n.qual, some F_int2digits.qual, some F_digits2int.qual, some F_divmod_pos.qual, some F_int_divmod.qual, some F_stream.qual, some F_word.qual, some F_own.qual, some F_text.qual, some F_settle.qual, some F_give.qual, some F_machine.qual, some F_run.qual, some F_fraction.qual, some F_euclid.qual, some F_alike.qual, some F_divided.qual, some F_init.qual, some F_read.qual, some F_get.qual, some F_push.qual, some F_law.qual], [some none, some none, some none, some none, some none, some none, some none, some none, some none, some none, some none, some none, some none, some none, some none, some (some (.ref 63)), some (some (.ref 21)), some (some (.ref 35)), some (some (.ref 42)), some (some (.ref 49)), some (some (.ref 56)), some (some (.ref 101)), some (some (.ref 112)), some (some (.ref 117)), some (some (.ref 122)), some (some (.ref 127)), some (some (.ref 134)), some (some (.ref 139)), some (some (.ref 146)), some (some (.ref 151)), some (some (.ref 158)), some (some (.ref 165)), some (some (.ref 170)), some (some (.ref 177)), some (some (.ref 182)), some (some (.builtin "object.__setattr__")), some (some (.ref 77)), some (some (.ref 84)), some (some (.builtin "function.__get__")), some (some (.ref 91)), some (some (.ref 98)), some none, some none, some none, some none, some none, some none, some none, some none], [some (.type "function")], [true, true, true, true, true, true, true, true, true, true, true, true, true, true], some 4000, some false)
noncomputable abbrev hook3 : Hook := tHook [1, 2, 3, 15, 17, 18, 20, 21, 22, 24, 25, 27, 28, 29, 31, 32, 34, 35, 36, 38, 39, 41, 42, 43, 45, 46, 48, 49, 50, 52, 53, 55, 56, 57, 59, 60, 62, 63, 64, 66, 67, 69, 71, 73, 74, 76, 77, 78, 80, 81, 83, 84, 85, 87, 88, 90, 91, 92, 94, 95, 97, 98, 99, 100, 101, 102, 103, 104, 105, 106, 108, 109, 111, 112, 113, 116, 117, 118, 121, 122, 123, 126, 127, 128, 130, 131, 133, 134, 135, 138, 139, 140, 142, 143, 145, 146, 147, 150, 151, 152, 154, 155, 157, 158, 159, 161, 162, 164, 165, 166, 169, 170, 171, 173, 174, 176, 177, 178, 181, 182] [30, 37, 107, 141, 148] chk3 ok3
theorem lookT {K : Frag} {fa c : Addr} {q : Str} {p : Arguments} {b : FuncBody} {s : Scope} {cl : List (Str × Addr)} {g n : Addr} {d k : Value} (e : fnTup K fa = some (q, p, b, s, cl, g, n, d, k, .ref c)) (h : codeAt K fa = c) : fnTup K fa = some (q, p, b, s, cl, g, n, d, k, .ref (codeAt K fa)) := h.symm ▸ e
theorem lookQ {K : Frag} {fa c : Addr} {q : Str} (e : codeQ K c = some q) (h : codeAt K fa = c) : codeQ K (codeAt K fa) = some q := h.symm ▸ e
theorem gl_of {K : Frag} {B : Heap} {p : Program} {loose : List Str} {mean : ExcName → Option Value} {mg mb : Str → Option Value} (e : chk3 K = ok3) (X : K.In B) (T : Top p loose mean mg mb B) : ∀ q ∈ GL3 ad3, ∃ v, VRel [] B q.2 v ∧ (mg q.1 = some v ∨ (mg q.1 = none ∧ mb q.1 = some v)) := by
  have n4 : ∀ i, _ = _ := nth_of (congrArg (·.2.2.2.1) e)
  exact List.forall_mem_cons.mpr ⟨gl_ty (n := "int") X T.g T.builtins (Option.some.inj (n4 0)) (by kernel_rfl) (by decide +kernel), List.forall_mem_cons.mpr ⟨gl_bi (n := "abs") X T.g T.builtins (Option.some.inj (n4 1)) (by kernel_rfl) (by decide +kernel), List.forall_mem_cons.mpr ⟨gl_bi (n := "divmod") X T.g T.builtins (Option.some.inj (n4 2)) (by kernel_rfl) (by decide +kernel), List.forall_mem_cons.mpr ⟨gl_bi (n := "len") X T.g T.builtins (Option.some.inj (n4 3)) (by kernel_rfl) (by decide +kernel), List.forall_mem_cons.mpr ⟨gl_ty (n := "reversed") X T.g T.builtins (Option.some.inj (n4 4)) (by kernel_rfl) (by decide +kernel), List.forall_mem_cons.mpr ⟨gl_ty (n := "range") X T.g T.builtins (Option.some.inj (n4 5)) (by kernel_rfl) (by decide +kernel), List.forall_mem_cons.mpr ⟨gl_ty (n := "enumerate") X T.g T.builtins (Option.some.inj (n4 6)) (by kernel_rfl) (by decide +kernel), List.forall_mem_cons.mpr ⟨gl_ty (n := "list") X T.g T.builtins (Option.some.inj (n4 7)) (by kernel_rfl) (by decide +kernel), List.forall_mem_cons.mpr ⟨gl_bi (n := "chr") X T.g T.builtins (Option.some.inj (n4 8)) (by kernel_rfl) (by decide +kernel), List.forall_mem_cons.mpr ⟨gl_bi (n := "ord") X T.g T.builtins (Option.some.inj (n4 9)) (by kernel_rfl) (by decide +kernel), List.forall_mem_cons.mpr ⟨gl_bi (n := "iter") X T.g T.builtins (Option.some.inj (n4 10)) (by kernel_rfl) (by decide +kernel), List.forall_mem_cons.mpr ⟨gl_bi (n := "min") X T.g T.builtins (Option.some.inj (n4 11)) (by kernel_rfl) (by decide +kernel), List.forall_mem_cons.mpr ⟨gl_ty (n := "str") X T.g T.builtins (Option.some.inj (n4 12)) (by kernel_rfl) (by decide +kernel), List.forall_mem_cons.mpr ⟨gl_ty (n := "bytes") X T.g T.builtins (Option.some.inj (n4 13)) (by kernel_rfl) (by decide +kernel), List.forall_mem_cons.mpr ⟨gl_ty (n := "ZeroDivisionError") X T.g T.builtins (Option.some.inj (n4 14)) (by kernel_rfl) (by decide +kernel), List.forall_mem_cons.mpr ⟨gl_int X T.g (congrArg (·.2.2.2.2.2.2.1) e), List.forall_mem_cons.mpr ⟨gl_fn X T.g (Option.some.inj (n4 15)), List.forall_mem_cons.mpr ⟨gl_fn X T.g (Option.some.inj (n4 16)), List.forall_mem_cons.mpr ⟨gl_fn X T.g (Option.some.inj (n4 17)), List.forall_mem_cons.mpr ⟨gl_fn X T.g (Option.some.inj (n4 18)), List.forall_mem_cons.mpr ⟨gl_fn X T.g (Option.some.inj (n4 19)), List.forall_mem_cons.mpr ⟨gl_fn X T.g (Option.some.inj (n4 20)), List.forall_mem_cons.mpr ⟨gl_fn X T.g (Option.some.inj (n4 21)), List.forall_mem_cons.mpr ⟨gl_fn X T.g (Option.some.inj (n4 22)), List.forall_mem_cons.mpr ⟨gl_fn X T.g (Option.some.inj (n4 23)), List.forall_mem_cons.mpr ⟨gl_fn X T.g (Option.some.inj (n4 24)), List.forall_mem_cons.mpr ⟨gl_fn X T.g (Option.some.inj (n4 25)), List.forall_mem_cons.mpr ⟨gl_fn X T.g (Option.some.inj (n4 26)), List.forall_mem_cons.mpr ⟨gl_fn X T.g (Option.some.inj (n4 27)), List.forall_mem_cons.mpr ⟨gl_fn X T.g (Option.some.inj (n4 28)), List.forall_mem_cons.mpr ⟨gl_fn X T.g (Option.some.inj (n4 29)), List.forall_mem_cons.mpr ⟨gl_fn X T.g (Option.some.inj (n4 30)), List.forall_mem_cons.mpr ⟨gl_fn X T.g (Option.some.inj (n4 31)), List.forall_mem_cons.mpr ⟨gl_fn X T.g (Option.some.inj (n4 32)), List.forall_mem_cons.mpr ⟨gl_fn X T.g (Option.some.inj (n4 33)), List.forall_mem_nil _⟩⟩⟩⟩⟩⟩⟩⟩⟩⟩⟩⟩⟩⟩⟩⟩⟩⟩⟩⟩⟩⟩⟩⟩⟩⟩⟩⟩⟩⟩⟩⟩⟩⟩⟩
theorem cls_of {K : Frag} (e : chk3 K = ok3) : Cls3 K ad3 := by
  have n4 : ∀ i, _ = _ := nth_of (congrArg (·.2.2.2.1) e)
  have n5 : ∀ i, _ = _ := nth_of (congrArg (·.2.2.2.2.1) e)
  have n6 : ∀ i, _ = _ := nth_of (congrArg (·.2.2.2.2.2.1) e)
  exact { ok := ⟨(Option.some.inj (n6 3)), (Option.some.inj (n6 4)), (Option.some.inj (n4 35)), (Option.some.inj (n6 5)), (Option.some.inj (n6 6)), (Option.some.inj (n6 7))⟩, init := (Option.some.inj (n4 36)), initT := (Option.some.inj (n5 0)), read := (Option.some.inj (n4 37)), readT := (Option.some.inj (n6 0)), readG := (Option.some.inj (n4 38)), readS := congrArg (·.2.2.2.2.2.2.2) e, get := (Option.some.inj (n4 39)), getT := (Option.some.inj (n6 1)), push := (Option.some.inj (n4 40)), pushT := (Option.some.inj (n6 2)), at1 := ⟨(Option.some.inj (n4 41)), (Option.some.inj (n4 42))⟩, at2 := ⟨(Option.some.inj (n4 43)), (Option.some.inj (n4 44))⟩, at3 := ⟨(Option.some.inj (n4 45)), (Option.some.inj (n4 46))⟩, at4 := ⟨(Option.some.inj (n4 47)), (Option.some.inj (n4 48))⟩ }
theorem w3_of {K : Frag} {B : Heap} {p prog : Program} {loose : List Str} {mean : ExcName → Option Value} {mg mb : Str → Option Value} {w : World} {os : OsState} (e : chk3 K = ok3) (X : K.In B) (T : Top p loose mean mg mb B) (h1 : CodeHd B 34 30) (h2 : CodeHd B 41 37) (h3 : CodeHd B 111 107) (h4 : CodeHd B 145 141) (h5 : CodeHd B 150 148) : W3 ⟨prog, w, K, B, os, [], mg, mb⟩ ad3 := by
  have n1 : ∀ i, _ = _ := nth_of (congrArg (·.1) e)
  have n2 : ∀ i, _ = _ := nth_of (congrArg (·.2.1) e)
  have n3 : ∀ i, _ = _ := nth_of (congrArg (·.2.2.1) e)
  exact { G := { kin := X, g := T.g, b := T.b, nolimit := T.nolimit, bmain := T.bmain, gl := gl_of e X T }, cls := cls_of e, ap := ⟨_, fnAt_of_K X (lookT (Option.some.inj (n1 0)) (Option.some.inj (n2 0))) (lookQ (Option.some.inj (n3 0)) (Option.some.inj (n2 0)))⟩, div2 := ⟨_, fnAt_of_K X (lookT (Option.some.inj (n1 1)) (Option.some.inj (n2 1))) (lookQ (Option.some.inj (n3 1)) (Option.some.inj (n2 1)))⟩, i2d := ⟨_, fnAt_of_K X (lookT (Option.some.inj (n1 2)) (Option.some.inj (n2 2))) (lookQ (Option.some.inj (n3 2)) (Option.some.inj (n2 2))), (Option.some.inj (n2 2)) ▸ h1⟩, d2i := ⟨_, fnAt_of_K X (lookT (Option.some.inj (n1 3)) (Option.some.inj (n2 3))) (lookQ (Option.some.inj (n3 3)) (Option.some.inj (n2 3))), (Option.some.inj (n2 3)) ▸ h2⟩, dmp := ⟨_, fnAt_of_K X (lookT (Option.some.inj (n1 4)) (Option.some.inj (n2 4))) (lookQ (Option.some.inj (n3 4)) (Option.some.inj (n2 4)))⟩, idm := ⟨_, fnAt_of_K X (lookT (Option.some.inj (n1 5)) (Option.some.inj (n2 5))) (lookQ (Option.some.inj (n3 5)) (Option.some.inj (n2 5)))⟩, stream := ⟨_, fnAt_of_K X (lookT (Option.some.inj (n1 6)) (Option.some.inj (n2 6))) (lookQ (Option.some.inj (n3 6)) (Option.some.inj (n2 6))), (Option.some.inj (n2 6)) ▸ h3⟩, word := ⟨_, fnAt_of_K X (lookT (Option.some.inj (n1 7)) (Option.some.inj (n2 7))) (lookQ (Option.some.inj (n3 7)) (Option.some.inj (n2 7)))⟩, own := ⟨_, fnAt_of_K X (lookT (Option.some.inj (n1 8)) (Option.some.inj (n2 8))) (lookQ (Option.some.inj (n3 8)) (Option.some.inj (n2 8)))⟩, text := ⟨_, fnAt_of_K X (lookT (Option.some.inj (n1 9)) (Option.some.inj (n2 9))) (lookQ (Option.some.inj (n3 9)) (Option.some.inj (n2 9)))⟩, settle := ⟨_, fnAt_of_K X (lookT (Option.some.inj (n1 10)) (Option.some.inj (n2 10))) (lookQ (Option.some.inj (n3 10)) (Option.some.inj (n2 10)))⟩, give := ⟨_, fnAt_of_K X (lookT (Option.some.inj (n1 11)) (Option.some.inj (n2 11))) (lookQ (Option.some.inj (n3 11)) (Option.some.inj (n2 11)))⟩, machine := ⟨_, fnAt_of_K X (lookT (Option.some.inj (n1 12)) (Option.some.inj (n2 12))) (lookQ (Option.some.inj (n3 12)) (Option.some.inj (n2 12))), (Option.some.inj (n2 12)) ▸ h4⟩, run := ⟨_, fnAt_of_K X (lookT (Option.some.inj (n1 13)) (Option.some.inj (n2 13))) (lookQ (Option.some.inj (n3 13)) (Option.some.inj (n2 13))), (Option.some.inj (n2 13)) ▸ h5⟩, fraction := ⟨_, fnAt_of_K X (lookT (Option.some.inj (n1 14)) (Option.some.inj (n2 14))) (lookQ (Option.some.inj (n3 14)) (Option.some.inj (n2 14)))⟩, euclid := ⟨_, fnAt_of_K X (lookT (Option.some.inj (n1 15)) (Option.some.inj (n2 15))) (lookQ (Option.some.inj (n3 15)) (Option.some.inj (n2 15)))⟩, alike := ⟨_, fnAt_of_K X (lookT (Option.some.inj (n1 16)) (Option.some.inj (n2 16))) (lookQ (Option.some.inj (n3 16)) (Option.some.inj (n2 16)))⟩, divided := ⟨_, fnAt_of_K X (lookT (Option.some.inj (n1 17)) (Option.some.inj (n2 17))) (lookQ (Option.some.inj (n3 17)) (Option.some.inj (n2 17)))⟩, fInit := ⟨_, fnAt_of_K X (lookT (Option.some.inj (n1 18)) (Option.some.inj (n2 18))) (lookQ (Option.some.inj (n3 18)) (Option.some.inj (n2 18)))⟩, fRead := ⟨_, fnAt_of_K X (lookT (Option.some.inj (n1 19)) (Option.some.inj (n2 19))) (lookQ (Option.some.inj (n3 19)) (Option.some.inj (n2 19)))⟩, fGet := ⟨_, fnAt_of_K X (lookT (Option.some.inj (n1 20)) (Option.some.inj (n2 20))) (lookQ (Option.some.inj (n3 20)) (Option.some.inj (n2 20)))⟩, fPush := ⟨_, fnAt_of_K X (lookT (Option.some.inj (n1 21)) (Option.some.inj (n2 21))) (lookQ (Option.some.inj (n3 21)) (Option.some.inj (n2 21)))⟩ }
theorem law_at {K : Frag} {B : Heap} (e : chk3 K = ok3) (X : K.In B) : FnAt B 182 F_law (.ref (codeAt K 182)) := by
  have n1 : ∀ i, _ = _ := nth_of (congrArg (·.1) e)
  have n2 : ∀ i, _ = _ := nth_of (congrArg (·.2.1) e)
  have n3 : ∀ i, _ = _ := nth_of (congrArg (·.2.2.1) e)
  exact fnAt_of_K X (lookT (Option.some.inj (n1 22)) (Option.some.inj (n2 22))) (lookQ (Option.some.inj (n3 22)) (Option.some.inj (n2 22)))
noncomputable abbrev tabsW : List (Addr × Addr) := [(34, 30), (41, 37), (111, 107), (145, 141), (150, 148)]
theorem tabs_at {K : Frag} {h : Heap} (e : chk3 K = ok3) (X : K.In h) (hT : ∀ P ∈ [30, 37, 107, 141, 148], h.get? P = some (tabObj #[])) : TabsAt tabsW h := by
  have n6 : ∀ i, _ = _ := nth_of (congrArg (·.2.2.2.2.2.1) e)
  exact List.forall_mem_cons.mpr ⟨⟨codeHd_of_K X (Option.some.inj (n6 9)), hT 30 (.head _)⟩, List.forall_mem_cons.mpr ⟨⟨codeHd_of_K X (Option.some.inj (n6 10)), hT 37 (.tail _ (.head _))⟩, List.forall_mem_cons.mpr ⟨⟨codeHd_of_K X (Option.some.inj (n6 11)), hT 107 (.tail _ (.tail _ (.head _)))⟩, List.forall_mem_cons.mpr ⟨⟨codeHd_of_K X (Option.some.inj (n6 12)), hT 141 (.tail _ (.tail _ (.tail _ (.head _))))⟩, List.forall_mem_cons.mpr ⟨⟨codeHd_of_K X (Option.some.inj (n6 13)), hT 148 (.tail _ (.tail _ (.tail _ (.tail _ (.head _)))))⟩, List.forall_mem_nil _⟩⟩⟩⟩⟩
theorem law1_code {K : Frag} {fa sl : Addr} {p prog : Program} {loose : List Str} {mean : ExcName → Option Value} {mg mb : Str → Option Value} {w : World} {s₁ : Shared} {its : Array Value} {ns : List Int} {A : Around}
    (e : chk3 K = ok3) (hT : TabsAt tabsW s₁.heap) (KX : K.In s₁.heap) (T : Top p loose mean mg mb s₁.heap) (hg : s₁.gens = #[]) (hmg : mg "law" = some (.ref fa)) (hsl : s₁.heap.IsList sl its) (hns : IntsAre its.toList ns) (hnz : ns.length ≤ 1000) (hr : Room A 141) (hfr : A.frames = some []) :
    codeAny (model prog w) A (Code.call (Value.ref fa) ⟨[Value.ref sl], []⟩) (fun r s' => r = .ok (.ret (.bool true)) ∧ (∀ b o, (ghostOf s₁.heap tabsW).get? b = some o → s'.heap.get? b = some o) ∧ s'.os = s₁.os ∧ s'.gens = #[] ∧ GrownAt 30 s'.heap ∧ GrownAt 37 s'.heap ∧ GrownAt 107 s'.heap ∧ GrownAt 141 s'.heap ∧ GrownAt 148 s'.heap) s₁ := by
  have n4 : ∀ i, _ = _ := nth_of (congrArg (·.2.2.2.1) e)
  have n6 : ∀ i, _ = _ := nth_of (congrArg (·.2.2.2.2.2.1) e)
  have X' := ghost_K hT KX (Option.some.inj (n6 8))
  have T' := ghost_top hT T
  have hd := ghost_code hT
  have W : W3 ⟨prog, w, K, ghostOf s₁.heap tabsW, s₁.os, [], mg, mb⟩ ad3 := w3_of e X' T' hd.1 hd.2.1 hd.2.2.1 hd.2.2.2.1 hd.2.2.2.2.1
  have hfa : fa = 182 := by
    have := mg_of KX T.g (Option.some.inj (n4 34))
    rw [hmg] at this
    cases this; rfl
  subst hfa
  have hF := law_at e X'
  have tabAt : ∀ q ∈ tabsW, s₁.heap.get? q.2 = some (tabObj #[]) ∧ (ghostOf s₁.heap tabsW).get? q.2 = none := fun q hq => ⟨(hT q hq).2, hideAll_none _ (List.mem_map_of_mem hq)⟩
  have tabRel : ∀ (P : Addr) (qn : Str), s₁.heap.get? P = some (tabObj #[]) → ORel [] s₁.heap P (.tab qn) := fun P qn e => ⟨#[], e, trivial, fun pos c h => by cases h⟩
  have t1 := tabAt _ (.head _)
  have t2 := tabAt _ (.tail _ (.head _))
  have t3 := tabAt _ (.tail _ (.tail _ (.head _)))
  have t4 := tabAt _ (.tail _ (.tail _ (.tail _ (.head _))))
  have t5 := tabAt _ (.tail _ (.tail _ (.tail _ (.tail _ (.head _)))))
  have R : Rel ⟨prog, w, K, ghostOf s₁.heap tabsW, s₁.os, [], mg, mb⟩ [(107, .tab "_law_stream.<locals>.<lambda>"), (141, .tab "_law_machine.<locals>.<lambda>"), (148, .tab "_law_run.<locals>.<lambda>"), (30, .tab "_int2digits.<locals>.inner"), (37, .tab "_digits2int.<locals>.inner")] s₁ := {
    keep := fun b o e => of_hideAll _ e
    gens := hg
    os := rfl
    nd := by decide
    fresh := List.forall_mem_cons.mpr ⟨t3.2, List.forall_mem_cons.mpr ⟨t4.2, List.forall_mem_cons.mpr ⟨t5.2, List.forall_mem_cons.mpr ⟨t1.2, List.forall_mem_cons.mpr ⟨t2.2, List.forall_mem_nil _⟩⟩⟩⟩⟩
    objs := List.forall_mem_cons.mpr ⟨tabRel _ _ t3.1, List.forall_mem_cons.mpr ⟨tabRel _ _ t4.1, List.forall_mem_cons.mpr ⟨tabRel _ _ t5.1, List.forall_mem_cons.mpr ⟨tabRel _ _ t1.1, List.forall_mem_cons.mpr ⟨tabRel _ _ t2.1, List.forall_mem_nil _⟩⟩⟩⟩⟩
    xl := fun a ha => by cases ha }
  have hc := sp_law (A := A) (H := [(107, .tab "_law_stream.<locals>.<lambda>"), (141, .tab "_law_machine.<locals>.<lambda>"), (148, .tab "_law_run.<locals>.<lambda>"), (30, .tab "_int2digits.<locals>.inner"), (37, .tab "_digits2int.<locals>.inner")]) W hr hfr hF (ghost_list hT hsl) hns hnz ⟨.tail _ (.tail _ (.tail _ (.head _))), .tail _ (.tail _ (.tail _ (.tail _ (.head _)))), .head _, .tail _ (.head _), .tail _ (.tail _ (.head _))⟩
  refine codeAny_mono (hc [.ref sl] s₁ (VsRel.cons (by simp only [VRel]) VsRel.nil) R) ?_
  rintro r s' hr'
  rcases r with e | (_ | _ | _ | v)
  · exact hr'.elim
  · exact hr'.elim
  · exact hr'.elim
  · exact hr'.elim
  · obtain ⟨x, H', ⟨rfl, Tb⟩, rv, R', _⟩ := hr'
    simp only [VRel] at rv
    subst rv
    have grown : ∀ (P : Addr) (qn : Str), (P, AO.tab qn) ∈ H' → GrownAt P s'.heap := fun P qn hm => (R'.objs _ hm).imp fun ps e => e.1
    exact ⟨rfl, R'.keep, R'.os, R'.gens, grown _ _ Tb.i2d, grown _ _ Tb.d2i, grown _ _ Tb.st, grown _ _ Tb.ma, grown _ _ Tb.ru⟩
end
noncomputable def view1 : Program := { rw_sw0039_01.prog with main := { rw_sw0039_01.prog.main with body := [1, 2, 3, 4, 5, 6, 7, 9, 11, 13, 14, 15, 16, 17, 18, 19, 20, 21, 22, 23, 24, 25].filterMap fun i => rw_sw0039_01.prog.main.body[i]? } }
noncomputable def xt1 (s : Shared) : Bool := xlAt view1 [] s && recOk (RowW.records (OpenRow.toRowW rw_sw0039_01.row)) s
theorem left1 : LeftO rw_sw0039_01.row.prog view1 [] xt1 (Hook.obs hook3) (Hook.val hook3) 2106 := fun w => by kernel_rfl
theorem said1 : rw_sw0039_01.wellSaid = true := by kernel_rfl
end Mine.Internal
open PySem.Challenge Mine.Internal
theorem PySem.Challenge.cw_sw0039_01_holds : PySem.Challenge.rw_sw0039_01.Holds := by
  w_on
  refine holds_law said1 fun said => ?_
  refine holds_open (q := view1) (loose := []) (Xt := xt1) (XP := XL view1 []) (Yf := Hook.obs hook3) (Ya := Hook.val hook3) (YP := Hook.says hook3) (N := 2106) left1 (Hook.of hook3) (Hook.keeps hook3) (fun s e => xl_of s (Bool.and_eq_true_iff.mp e).1) XL.keeps (by rfl) (by rfl) (by rfl) (fun s e => recFacts_of (Bool.and_eq_true_iff.mp e).2) (by rfl) said (by decide +kernel) ⟨rfl, rfl, rfl, rfl, rfl, by decide +kernel⟩ ?hw ?hc
  (case hw => w_witness2)
  w_strict (
    intro w s₀ s₁ mg mb G Y fa o pm cd doc dV kV ho hd hcd hD hmg hg args vals as hpre hlay hrd hwl hlo
    obtain ⟨⟨K, KX, kk⟩, hT8⟩ := Y
    refine Ground.open G ?_
    intro T B D TE TW
    try (refine guard_noD D (by decide +kernel) ?_; clear D)
    have hT9 := tabs_at kk KX hT8
    wrow_args hpre hlay hrd hwl hlo
    first | refine callC_kw (enter_call ?_) | refine enter_call ?_
    w_top on
    kn_posts
    rename Heap.IsList _ _ _ => hsl
    rename IntsAre _ _ => hns
    refine codeAny_mono (law1_code kk hT9 KX T hg hmg hsl hns ?kz ⟨rfl, by decide, by decide⟩ rfl) ?kp
    case kz => omega
    case kp =>
      rintro r s' ⟨rfl, h1, h2, h3, h4, h5, h6, h7, h8⟩
      exact ⟨⟨.inl ⟨.bool true, .bool true, [], rfl, fun zz => rfl, .bool true, by kernel_rfl, fun zz => ⟨List.nodup_nil, fun a ha => by cases ha⟩⟩, h1, h2, h3⟩, h4, h5, h6, h7, h8, trivial⟩)
