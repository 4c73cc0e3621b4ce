import PyProof.Rows.All
import Wide.All
import OpenK.AllK
import Wide.FinOn
import PySem.Challenge.RW_sw0039_02
open PySem PySem.W PySem.Calls PyProof.Rows
set_option Elab.async false
set_option maxRecDepth 100000
set_option linter.all false
set_option maxHeartbeats 8000000
set_option genSizeOf false
set_option compiler.extract_closed false
set_option bootstrap.genMatcherCode false
namespace Mine
noncomputable section
theorem E11 {α0 : Type} {p0 : α0 → Prop} {P : Prop} (h : ∃ x0, p0 x0) (k : ∀ x0, p0 x0 → P) : P := h.elim fun x0 h => k x0 (h)
theorem E12 {α0 : Type} {p0 p1 : α0 → Prop} {P : Prop} (h : ∃ x0, p0 x0 ∧ p1 x0) (k : ∀ x0, p0 x0 → p1 x0 → P) : P := h.elim fun x0 h => k x0 (h.1) (h.2)
theorem E13 {α0 : Type} {p0 p1 p2 : α0 → Prop} {P : Prop} (h : ∃ x0, p0 x0 ∧ p1 x0 ∧ p2 x0) (k : ∀ x0, p0 x0 → p1 x0 → p2 x0 → P) : P := h.elim fun x0 h => k x0 (h.1) (h.2.1) (h.2.2)
theorem E15 {α0 : Type} {p0 p1 p2 p3 p4 : α0 → Prop} {P : Prop} (h : ∃ x0, p0 x0 ∧ p1 x0 ∧ p2 x0 ∧ p3 x0 ∧ p4 x0) (k : ∀ x0, p0 x0 → p1 x0 → p2 x0 → p3 x0 → p4 x0 → P) : P := h.elim fun x0 h => k x0 (h.1) (h.2.1) (h.2.2.1) (h.2.2.2.1) (h.2.2.2.2)
theorem E22 {α0 α1 : Type} {p0 p1 : α0 → α1 → Prop} {P : Prop} (h : ∃ x0 x1, p0 x0 x1 ∧ p1 x0 x1) (k : ∀ x0 x1, p0 x0 x1 → p1 x0 x1 → P) : P := h.elim fun x0 h => h.elim fun x1 h => k x0 x1 (h.1) (h.2)
theorem E23 {α0 α1 : Type} {p0 p1 p2 : α0 → α1 → Prop} {P : Prop} (h : ∃ x0 x1, p0 x0 x1 ∧ p1 x0 x1 ∧ p2 x0 x1) (k : ∀ x0 x1, p0 x0 x1 → p1 x0 x1 → p2 x0 x1 → P) : P := h.elim fun x0 h => h.elim fun x1 h => k x0 x1 (h.1) (h.2.1) (h.2.2)
theorem E24 {α0 α1 : Type} {p0 p1 p2 p3 : α0 → α1 → Prop} {P : Prop} (h : ∃ x0 x1, p0 x0 x1 ∧ p1 x0 x1 ∧ p2 x0 x1 ∧ p3 x0 x1) (k : ∀ x0 x1, p0 x0 x1 → p1 x0 x1 → p2 x0 x1 → p3 x0 x1 → P) : P := h.elim fun x0 h => h.elim fun x1 h => k x0 x1 (h.1) (h.2.1) (h.2.2.1) (h.2.2.2)
theorem E46 {α0 α1 α2 α3 : Type} {p0 p1 p2 p3 p4 p5 : α0 → α1 → α2 → α3 → Prop} {P : Prop} (h : ∃ x0 x1 x2 x3, p0 x0 x1 x2 x3 ∧ p1 x0 x1 x2 x3 ∧ p2 x0 x1 x2 x3 ∧ p3 x0 x1 x2 x3 ∧ p4 x0 x1 x2 x3 ∧ p5 x0 x1 x2 x3) (k : ∀ x0 x1 x2 x3, p0 x0 x1 x2 x3 → p1 x0 x1 x2 x3 → p2 x0 x1 x2 x3 → p3 x0 x1 x2 x3 → p4 x0 x1 x2 x3 → p5 x0 x1 x2 x3 → P) : P := h.elim fun x0 h => h.elim fun x1 h => h.elim fun x2 h => h.elim fun x3 h => k x0 x1 x2 x3 (h.1) (h.2.1) (h.2.2.1) (h.2.2.2.1) (h.2.2.2.2.1) (h.2.2.2.2.2)
theorem sub_s {n i : Nat} (h : i < n) : n - i = n - (i + 1) + 1 := by lia
theorem last_ix {n : Nat} (h : 0 < n) : (-1 + (n : Int)).toNat = n - 1 := by lia
theorem csub {a b : Nat} (h : a ≤ b) : (b : Int) - (a : Int) = ((b - a : Nat) : Int) := by lia
theorem absA {x y : Int} {a b : Nat} (h1 : x.natAbs ≤ a) (h2 : y.natAbs ≤ b) : (x + y).natAbs ≤ a + b := Nat.le_trans (Int.natAbs_add_le _ _) (Nat.add_le_add h1 h2)
theorem absS {x y : Int} {a b : Nat} (h1 : x.natAbs ≤ a) (h2 : y.natAbs ≤ b) : (x - y).natAbs ≤ a + b := Nat.le_trans (Int.natAbs_sub_le _ _) (Nat.add_le_add h1 h2)
theorem absAI {x y a b : Int} (h1 : (x.natAbs : Int) ≤ a) (h2 : (y.natAbs : Int) ≤ b) : ((x + y).natAbs : Int) ≤ a + b := Int.le_trans (Int.ofNat_le.mpr (Int.natAbs_add_le x y)) (Int.add_le_add h1 h2)
theorem abs63 {x : Int} (h : x.natAbs ≤ 1000 * 2 ^ 50) : -2 ^ 63 ≤ x ∧ x < 2 ^ 63 := by lia
theorem abs_diff {a b n : Nat} (ha : a < n) (hb : b < n) : ((b : Int) - (a : Int)).natAbs < n := by lia
theorem halvesD {L R M d : Nat} (hM : (L + R) / 2 = M) (hd : R - L ≤ 2 ^ (d + 1)) : M - L ≤ 2 ^ d ∧ R - M ≤ 2 ^ d := by have := Nat.pow_succ 2 d; omega
theorem splitL {L M R : Nat} (h1 : L ≤ M) (h2 : M ≤ R) : R - L = M - L + (R - M) := by rw [Nat.add_comm]; exact (Nat.sub_add_sub_cancel h2 h1).symm
theorem csub2 {n l i : Nat} (h : l = n - 1) (hi : i < l) : (n : Int) - 2 - (i : Int) = ((l - 1 - i : Nat) : Int) := by omega
theorem sub11 {a b : Nat} (h : 1 ≤ b) : a - 1 - (b - 1) = a - b := by rw [Nat.sub_sub, Nat.add_comm, Nat.sub_add_cancel h]
theorem sub12 {a b : Nat} (h : 1 ≤ b) (h2 : b - 1 + 1 ≤ a) : b - 1 + (a - b) = a - 1 := by omega
theorem addL {L M n : Nat} (h1 : L ≤ M) (h2 : M ≤ n) : L + (M - L) ≤ n := by rw [Nat.add_sub_cancel' h1]; exact h2
theorem pw27 {a k : Nat} (ha : a ≤ 40) (hk : k ≤ 128) : (a : Int) * (k : Int) ≤ 2 ^ 27 := by
  have := Nat.mul_le_mul ha hk
  rw [← Int.natCast_mul]; omega
theorem subs4 {n i : Nat} (h : n ≤ 4) : n - 1 - i ≤ 4 := Nat.le_trans (Nat.sub_le _ _) (Nat.le_trans (Nat.sub_le _ _) h)
theorem mod42 (x : Int) : (x % 4294967297).natAbs < 2 ^ 42 := by omega
theorem lm {α β : Type} {f : α → β} {l : List α} {n m : Nat} (h : l.length ≤ n) (k : n ≤ m) : (l.map f).length ≤ m := by rw [List.length_map]; exact Nat.le_trans h k
theorem neg1 {n : Nat} (h : 0 < n) : -(n : Int) ≤ -1 := by omega
theorem one_k (k : Nat) : ((1 + k : Nat) : Int) - 1 = k := by omega
theorem tk1 (t k : Nat) : ((t + 1 + k : Nat) : Int) - 1 = ((t + k : Nat) : Int) := by omega
theorem zp1 {z : Nat} (h : z ≤ 3) : ((z : Int) + 1).natAbs ≤ 2 ^ 2 := by omega
theorem z0 {z : Nat} (h : z ≤ 3) : (z : Int).natAbs ≤ 2 ^ 2 := by omega
theorem zp2 {j t : Nat} (hj : j ≤ 3) (h : t ≤ j) : ((j : Int) - (t : Int) + 1).natAbs ≤ 2 ^ 2 := by omega
theorem halves {L R M : Nat} (hM : (L + R) / 2 = M) (h : L < R) (h1 : ¬ R = L + 1) : L < M ∧ M < R := by omega
end
noncomputable section
inductive V where
  | none | bool (b : Bool) | int (i : Int) | str (x : Str) | bytes (b : Array UInt8)
  | ref (a : Addr) | bi (id : String) | ty (n : String) | tup (vs : List V)

mutual
noncomputable def VRel (X : List Addr) (h : Heap) : V → Value → Prop
  | .none, v => v = .none
  | .bool b, v => v = .bool b
  | .int i, v => ∃ t, v = .int i t
  | .str x, v => ∃ t, v = .str x t
  | .bytes b, v => ∃ t, v = .bytes b t
  | .ref a, v => v = .ref a
  | .bi id, v => v = .builtin id
  | .ty n, v => v = .type n
  | .tup vs, v => ∃ a items, v = .ref a ∧ a ∉ X ∧ h.IsTuple a items ∧ VsRel X h vs items.toList
noncomputable def VsRel (X : List Addr) (h : Heap) : List V → List Value → Prop
  | [], l => l = []
  | x :: xs, l => ∃ v r, l = v :: r ∧ VRel X h x v ∧ VsRel X h xs r
end

noncomputable def Frozen (X : List Addr) (a : Addr) (o : Obj) : Prop := (a ∉ X ∧ o.cls = .type "tuple" ∧ ∃ items n, o.data = .seq items n) ∨ (o.cls = .type "code" ∧ ∃ vs, o.data = .fields vs)
noncomputable def Fz (X : List Addr) (h h' : Heap) : Prop := ∀ a o, h.get? a = some o → Frozen X a o → h'.get? a = some o


theorem IsTuple.fz {X : List Addr} {h h' : Heap} {a : Addr} {items : Array Value} (x : Fz X h h') (hX : a ∉ X) (t : h.IsTuple a items) : h'.IsTuple a items :=
  let ⟨o, ho, hc, n, r⟩ := t; ⟨o, x a o ho (.inl ⟨hX, hc, _, _, r⟩), hc, n, r⟩

noncomputable abbrev TChg (X X' : List Addr) (h h' : Heap) : Prop := ∀ a items, a ∉ X → h.IsTuple a items → a ∉ X' ∧ h'.IsTuple a items
mutual
theorem VRel.chg {X X' : List Addr} {h h' : Heap} (x : TChg X X' h h') : ∀ {u : V} {v : Value}, VRel X h u v → VRel X' h' u v
  | .none, _, r => by simpa only [VRel] using r
  | .bool _, _, r => by simpa only [VRel] using r
  | .int _, _, r => by simpa only [VRel] using r
  | .str _, _, r => by simpa only [VRel] using r
  | .bytes _, _, r => by simpa only [VRel] using r
  | .ref _, _, r => by simpa only [VRel] using r
  | .bi _, _, r => by simpa only [VRel] using r
  | .ty _, _, r => by simpa only [VRel] using r
  | .tup vs, v, r => by
    simp only [VRel] at r ⊢
    obtain ⟨a, items, e, hX, t, q⟩ := r
    obtain ⟨hX', t'⟩ := x a items hX t
    exact ⟨a, items, e, hX', t', VsRel.chg x q⟩
theorem VsRel.chg {X X' : List Addr} {h h' : Heap} (x : TChg X X' h h') : ∀ {us : List V} {vs : List Value}, VsRel X h us vs → VsRel X' h' us vs
  | [], _, r => by simpa only [VsRel] using r
  | u :: us, vs, r => by
    simp only [VsRel] at r ⊢
    obtain ⟨v, l, e, q, q'⟩ := r
    exact ⟨v, l, e, VRel.chg x q, VsRel.chg x q'⟩
end
theorem Fz.chg {X : List Addr} {h h' : Heap} (x : Fz X h h') : TChg X X h h' := fun _ _ n t => ⟨n, IsTuple.fz x n t⟩
theorem VRel.fz {X : List Addr} {h h' : Heap} (x : Fz X h h') {u : V} {v : Value} (r : VRel X h u v) : VRel X h' u v := r.chg x.chg
theorem VsRel.fz {X : List Addr} {h h' : Heap} (x : Fz X h h') {us : List V} {vs : List Value} (r : VsRel X h us vs) : VsRel X h' us vs := r.chg x.chg

theorem VsRel.length {X : List Addr} {h : Heap} : ∀ {us : List V} {vs : List Value}, VsRel X h us vs → vs.length = us.length
  | [], _, r => by simp only [VsRel] at r; simp [r]
  | u :: us, vs, r => by
    simp only [VsRel] at r
    obtain ⟨v, l, e, _, q'⟩ := r
    simp [e, VsRel.length q']
theorem VsRel.nil {X : List Addr} {h : Heap} : VsRel X h [] [] := by simp only [VsRel]
theorem VsRel.cons {X : List Addr} {h : Heap} {u : V} {v : Value} {us : List V} {vs : List Value} (q : VRel X h u v) (r : VsRel X h us vs) : VsRel X h (u :: us) (v :: vs) := by
  simp only [VsRel]; exact ⟨v, vs, rfl, q, r⟩
theorem VsRel.get {X : List Addr} {h : Heap} : ∀ {us : List V} {vs : List Value} {i : Nat} {u : V}, VsRel X h us vs → us[i]? = some u → ∃ v, vs[i]? = some v ∧ VRel X h u v
  | [], _, _, _, _, e => by simp at e
  | x :: us, vs, i, u, r, e => by
    simp only [VsRel] at r
    obtain ⟨v, l, rfl, q, q'⟩ := r
    cases i with
    | zero => simp at e; subst e; exact ⟨v, by simp, q⟩
    | succ i => simp at e; obtain ⟨w, hw, hr⟩ := VsRel.get q' e; exact ⟨w, by simpa using hw, hr⟩
theorem VsRel.append {X : List Addr} {h : Heap} : ∀ {us us' : List V} {vs vs' : List Value}, VsRel X h us vs → VsRel X h us' vs' → VsRel X h (us ++ us') (vs ++ vs')
  | [], _, _, _, r, r' => by simp only [VsRel] at r; subst r; simpa using r'
  | x :: us, _, vs, _, r, r' => by
    simp only [VsRel] at r
    obtain ⟨v, l, rfl, q, q'⟩ := r
    exact VsRel.cons q (VsRel.append q' r')
theorem VsRel.of_get {X : List Addr} {h : Heap} : ∀ {us : List V} {vs : List Value}, vs.length = us.length → (∀ (i : Nat) (u : V), us[i]? = some u → ∃ v : Value, vs[i]? = some v ∧ VRel X h u v) → VsRel X h us vs
  | [], vs, e, _ => by simp only [VsRel]; exact List.length_eq_zero_iff.mp e
  | u :: us, [], e, _ => by simp at e
  | u :: us, v :: vs, e, k => by
    obtain ⟨w, hw, hr⟩ := k 0 u (by simp)
    simp at hw; subst hw
    exact VsRel.cons hr (VsRel.of_get (by simpa using e) fun i u' hu => by simpa using k (i + 1) u' (by simpa using hu))

noncomputable def NsRel (X : List Addr) (h : Heap) (m : Str → Option Value) : List Str → List (Option V) → Prop
  | [], l => l = []
  | n :: ns, l => ∃ o r, l = o :: r ∧ (∀ u, o = some u → ∃ v, m n = some v ∧ VRel X h u v) ∧ NsRel X h m ns r

theorem NsRel.chg {X X' : List Addr} {h h' : Heap} {m : Str → Option Value} (x : TChg X X' h h') : ∀ {ns : List Str} {os : List (Option V)}, NsRel X h m ns os → NsRel X' h' m ns os
  | [], _, r => r
  | n :: ns, l, ⟨o, r, e, q, q'⟩ => ⟨o, r, e, fun u hu => let ⟨v, a, b⟩ := q u hu; ⟨v, a, b.chg x⟩, NsRel.chg x q'⟩
theorem NsRel.fz {X : List Addr} {h h' : Heap} {m : Str → Option Value} (x : Fz X h h') {ns : List Str} {os : List (Option V)} (r : NsRel X h m ns os) : NsRel X h' m ns os := r.chg x.chg

inductive At : List Str → List (Option V) → Str → V → Prop
  | head {x ns v os} : At (x :: ns) (some v :: os) x v
  | tail {n ns o os x v} : At ns os x v → At (n :: ns) (o :: os) x v
inductive Put : List Str → List (Option V) → Str → V → List (Option V) → Prop
  | head {x ns o v os} : Put (x :: ns) (o :: os) x v (some v :: os)
  | tail {n ns o os x v os'} : Put ns os x v os' → Put (n :: ns) (o :: os) x v (o :: os')

theorem At.get {X : List Addr} {h : Heap} {m : Str → Option Value} {ns os x v} (a : At ns os x v) : NsRel X h m ns os → ∃ w, m x = some w ∧ VRel X h v w := by
  induction a with
  | head => rintro ⟨o, r, e, q, _⟩; cases e; exact q _ rfl
  | tail _ ih => rintro ⟨o, r, e, _, q⟩; cases e; exact ih q
theorem At.mem {ns os x v} (a : At ns os x v) : x ∈ ns := by
  induction a with
  | head => exact .head _
  | tail _ ih => exact .tail _ ih
theorem Put.mem {ns os x v os'} (a : Put ns os x v os') : x ∈ ns := by
  induction a with
  | head => exact .head _
  | tail _ ih => exact .tail _ ih
theorem NsRel.other {X : List Addr} {h : Heap} {m m' : Str → Option Value} : ∀ {ns os}, NsRel X h m ns os → (∀ n ∈ ns, m' n = m n) → NsRel X h m' ns os
  | [], _, r, _ => r
  | n :: ns, _, ⟨o, r, e, q, q'⟩, k => ⟨o, r, e, fun u hu => by rw [k n (.head _)]; exact q u hu, q'.other fun n hn => k n (.tail _ hn)⟩
theorem Put.rel {X : List Addr} {h : Heap} {m : Str → Option Value} {ns os x v os' w} (a : Put ns os x v os') (hv : VRel X h v w) : ns.Nodup → NsRel X h m ns os → NsRel X h (fun y => if y = x then some w else m y) ns os' := by
  induction a with
  | head =>
    rintro nd ⟨o, r, e, _, q⟩; cases e
    refine ⟨_, _, rfl, fun u hu => ?_, q.other fun n hn => ?_⟩
    · cases hu; exact ⟨w, by simp, hv⟩
    · exact if_neg fun e => (List.nodup_cons.mp nd).1 (by rw [← e]; exact hn)
  | tail a ih =>
    rintro nd ⟨o, r, e, q, q'⟩; cases e
    obtain ⟨h1, h2⟩ := List.nodup_cons.mp nd
    refine ⟨_, _, rfl, fun u hu => ?_, ih hv h2 q'⟩
    obtain ⟨v', e1, e2⟩ := q u hu
    exact ⟨v', (if_neg fun e => h1 (by rw [e]; exact a.mem)).trans e1, e2⟩

structure FnA where
  qual : Str
  params : Arguments
  body : FuncBody
  scope : Scope
  closure : List (Str × Addr)

inductive AO where
  | list (vs : List V)
  | ns (names : List Str) (vals : List (Option V))
  | cell (v : Option V)
  | attrs (es : List (Str × V))
  | obj (o : Obj)
  | fn (f : FnA)
  | fobj (d : Addr)
  | tab (qual : Str)
  | dict (es : List (Str × V))

noncomputable def EsRel (X : List Addr) (h : Heap) : List (Str × V) → List DictEntry → Prop
  | [], l => l = []
  | (k, u) :: es, l => ∃ e r, l = e :: r ∧ (∃ t, e.key = .str k t) ∧ VRel X h u e.val ∧ EsRel X h es r

theorem EsRel.chg {X X' : List Addr} {h h' : Heap} (x : TChg X X' h h') : ∀ {es : List (Str × V)} {l : List DictEntry}, EsRel X h es l → EsRel X' h' es l
  | [], _, r => r
  | (k, u) :: es, l, ⟨e, r, a, b, c, d⟩ => ⟨e, r, a, b, c.chg x, d.chg x⟩
theorem EsRel.fz {X : List Addr} {h h' : Heap} (x : Fz X h h') {es : List (Str × V)} {l : List DictEntry} (r : EsRel X h es l) : EsRel X h' es l := r.chg x.chg

noncomputable abbrev AH := List (Addr × AO)

structure Cfg where
  prog : Program
  w : World
  K : Frag
  B : Heap
  os : OsState
  X : List Addr
  mg : Str → Option Value
  mb : Str → Option Value

noncomputable def HasSys (C : Cfg) : Prop := ∃ o, C.B.get? sysModules = some o
noncomputable def CodeF (h : Heap) (cd : Value) (q : Str) : Prop := ∃ c o vs t, cd = .ref c ∧ h.get? c = some o ∧ o.cls = .type "code" ∧ o.data = .fields vs ∧ vs[1]? = some (.str q t)
theorem CodeF.fz {X : List Addr} {h h' : Heap} {cd : Value} {q : Str} (x : Fz X h h') : CodeF h cd q → CodeF h' cd q := fun ⟨c, o, vs, t, a, b, d, e⟩ => ⟨c, o, vs, t, a, x c o b (.inr ⟨d, _, e.1⟩), d, e⟩
theorem CodeF.rec {h : Heap} {cd : Value} {q : Str} : CodeF h cd q → h.CodeRec cd q := fun ⟨c, o, vs, t, a, b, _, e⟩ => ⟨c, o, vs, t, a, b, e⟩

structure FnO (h : Heap) (a : Addr) (f : FnA) (o : Obj) (fd : FuncData) : Prop where
  get : h.get? a = some o
  cls : o.cls = .type "function"
  dat : o.data = .func fd
  r1 : fd.qualname = f.qual
  r2 : fd.params = f.params
  r3 : fd.body = f.body
  r4 : fd.scope = f.scope
  r5 : fd.closure = f.closure
  r6 : fd.globals = mainGlobals
  r7 : fd.builtins = builtinsNs
  r8 : fd.defaults = .none
  r9 : fd.kwdefaults = .none
  code : CodeF h fd.code fd.qualname
  r10 : o.dict = none
  r11 : o.slots = #[]
noncomputable def ORel (X : List Addr) (h : Heap) (a : Addr) : AO → Prop
  | .list vs => ∃ items, h.PlainList a items ∧ VsRel X h vs items.toList
  | .ns names vals => names.Nodup ∧ ∃ m, h.Ns a m ∧ NsRel X h m names vals
  | .cell u => ∃ v, h.IsCell a v ∧ ∀ x, u = some x → ∃ y, v = some y ∧ VRel X h x y
  | .attrs es => ∃ l n, h.get? a = some (dictOf l n) ∧ EsRel X h es l
  | .obj o => h.get? a = some o ∧ ¬ Frozen X a o
  | .fn f => ∃ o fd, FnO h a f o fd
  | .fobj d => ∃ fd, h.get? a = some { cls := .type "function", dict := some d, data := .func fd }
  | .tab q => ∃ ps, h.get? a = some (tabObj ps) ∧ TriplesOk ps.toList ∧ ∀ pos c, codeAmong pos ps.toList = some c → CodeF h c q
  | .dict es => ∃ l n, h.get? a = some (dictOf l n) ∧ EsRel X h es l

theorem fz_data {X : List Addr} {a : Addr} {o : Obj} (h1 : ∀ i n, o.data ≠ .seq i n ∨ o.cls ≠ .type "tuple") (h2 : ∀ v, o.data ≠ .fields v) : ¬ Frozen X a o
  | .inl ⟨_, c, i, n, d⟩ => (h1 i n).elim (· d) (· c)
  | .inr ⟨_, v, d⟩ => h2 v d
theorem ORel.live {X : List Addr} {h : Heap} {a : Addr} {x : AO} (r : ORel X h a x) : ∃ o, h.get? a = some o ∧ ¬ Frozen X a o := by
  cases x with
  | list _ => exact r.elim fun _ p => p.1.elim fun _ e => ⟨_, e, fz_data (fun _ _ => .inr (by simp)) (fun _ => nofun)⟩
  | ns _ _ => exact r.2.elim fun _ p => p.1.elim fun o q => q.elim fun _ q => q.elim fun _ q => ⟨o, q.1, fz_data (fun _ _ => .inl (by rw [q.2.1]; nofun)) (fun _ => by rw [q.2.1]; nofun)⟩
  | cell _ => exact r.elim fun _ p => p.1.elim fun o q => ⟨o, q.1, fz_data (fun _ _ => .inl (by rw [q.2]; nofun)) (fun _ => by rw [q.2]; nofun)⟩
  | attrs _ => exact r.elim fun _ p => p.elim fun _ q => ⟨_, q.1, fz_data (fun _ _ => .inl nofun) (fun _ => nofun)⟩
  | obj _ => exact ⟨_, r⟩
  | fn _ => exact r.elim fun o p => p.elim fun _ q => ⟨o, q.get, fz_data (fun _ _ => .inl (by rw [q.dat]; nofun)) (fun _ => by rw [q.dat]; nofun)⟩
  | fobj _ => exact r.elim fun _ e => ⟨_, e, fz_data (fun _ _ => .inl nofun) (fun _ => nofun)⟩
  | tab _ => exact r.elim fun _ p => ⟨_, p.1, by simp [Frozen]⟩
  | dict _ => exact r.elim fun _ p => p.elim fun _ q => ⟨_, q.1, fz_data (fun _ _ => .inl nofun) (fun _ => nofun)⟩

theorem notFrozen_chg {X X' : List Addr} {a : Addr} {o : Obj} (hs : a ∉ X' → a ∉ X) (f : ¬ Frozen X a o) : ¬ Frozen X' a o := fun g => f (g.imp (fun ⟨h, r⟩ => ⟨hs h, r⟩) id)
theorem ORel.chg {X X' : List Addr} {h h' : Heap} {a : Addr} (x : TChg X X' h h') (ka : a ∉ X' → a ∉ X) (kc : ∀ c q, CodeF h c q → CodeF h' c q) (k : ∀ o, h.get? a = some o → h'.get? a = some o) {u : AO} (r : ORel X h a u) : ORel X' h' a u := by
  cases u with
  | list _ => exact r.elim fun i p => ⟨i, p.1.elim fun n e => ⟨n, k _ e⟩, p.2.chg x⟩
  | ns _ _ => exact ⟨r.1, r.2.elim fun m p => ⟨m, p.1.at' k, p.2.chg x⟩⟩
  | cell _ => exact r.elim fun v p => ⟨v, p.1.elim fun o e => ⟨o, k _ e.1, e.2⟩, fun u hu => (p.2 u hu).elim fun y q => ⟨y, q.1, q.2.chg x⟩⟩
  | attrs _ => exact r.elim fun l p => p.elim fun n q => ⟨l, n, k _ q.1, q.2.chg x⟩
  | obj _ => exact ⟨k _ r.1, notFrozen_chg ka r.2⟩
  | fn _ => exact r.elim fun o p => p.elim fun fd q => ⟨o, fd, { q with get := k _ q.get, code := kc _ _ q.code }⟩
  | fobj _ => exact r.elim fun fd e => ⟨fd, k _ e⟩
  | tab _ => exact r.elim fun ps p => ⟨ps, k _ p.1, p.2.1, fun s c hc => kc _ _ (p.2.2 s c hc)⟩
  | dict _ => exact r.elim fun l p => p.elim fun n q => ⟨l, n, k _ q.1, q.2.chg x⟩
theorem ORel.move {X : List Addr} {h h' : Heap} {a : Addr} (x : Fz X h h') (k : ∀ o, h.get? a = some o → h'.get? a = some o) {u : AO} (r : ORel X h a u) : ORel X h' a u := r.chg x.chg id (fun _ _ c => c.fz x) k

noncomputable abbrev keys (H : AH) : List Addr := H.map (·.1)

structure Rel (C : Cfg) (H : AH) (s : Shared) : Prop where
  keep : ∀ b o, C.B.get? b = some o → s.heap.get? b = some o
  gens : s.gens = #[]
  os : s.os = C.os
  nd : (keys H).Nodup
  fresh : ∀ p ∈ H, C.B.get? p.1 = none
  objs : ∀ p ∈ H, ORel C.X s.heap p.1 p.2
  xl : ∀ a ∈ C.X, a ∉ keys H ∧ ∃ o, s.heap.get? a = some o

noncomputable def Kept (H : AH) (s : Shared) (H' : AH) (s' : Shared) : Prop := ∀ b o, b ∉ keys H → s.heap.get? b = some o → s'.heap.get? b = some o ∧ b ∉ keys H'

theorem Kept.refl (H : AH) (s : Shared) : Kept H s H s := fun _ _ n e => ⟨e, n⟩
theorem Kept.trans {H H' H'' : AH} {s s' s'' : Shared} (x : Kept H s H' s') (y : Kept H' s' H'' s'') : Kept H s H'' s'' := fun b o n e =>
  let ⟨e', n'⟩ := x b o n e; y b o n' e'
theorem Rel.notin {C : Cfg} {H : AH} {s : Shared} (R : Rel C H s) {a : Addr} {o : Obj} (e : s.heap.get? a = some o) (f : Frozen C.X a o) : a ∉ keys H := fun h => by
  obtain ⟨p, hp, rfl⟩ := List.mem_map.mp h
  obtain ⟨o', e', n⟩ := (R.objs p hp).live
  rw [e] at e'; cases e'; exact n f
theorem Kept.fz {C : Cfg} {H H' : AH} {s s' : Shared} (R : Rel C H s) (k : Kept H s H' s') : Fz C.X s.heap s'.heap := fun a o e f => (k a o (R.notin e f) e).1
theorem Rel.lt {C : Cfg} {H : AH} {s : Shared} (R : Rel C H s) {a : Addr} (h : a ∈ keys H) : a < s.heap.objs.size := by
  obtain ⟨p, hp, rfl⟩ := List.mem_map.mp h
  obtain ⟨o', e', _⟩ := (R.objs p hp).live
  exact Heap.lt_size e'
theorem Rel.newAddr {C : Cfg} {H : AH} {s : Shared} (R : Rel C H s) : s.heap.objs.size ∉ keys H := fun h => Nat.lt_irrefl _ (R.lt h)
theorem Rel.baseNew {C : Cfg} {H : AH} {s : Shared} (R : Rel C H s) {a : Addr} (h : s.heap.objs.size ≤ a) : C.B.get? a = none := by
  cases e : C.B.get? a with
  | none => rfl
  | some o => exact absurd (Heap.lt_size (R.keep a o e)) (Nat.not_lt.mpr h)

theorem fz_of_ext {X : List Addr} {h h' : Heap} (k : ∀ b o, h.get? b = some o → h'.get? b = some o) : Fz X h h' := fun a o e _ => k a o e

theorem Rel.ext {C : Cfg} {H : AH} {s : Shared} (R : Rel C H s) {h' : Heap} {t : Tok} (k : ∀ b o, s.heap.get? b = some o → h'.get? b = some o) : Rel C H { s with heap := h', toks := t } where
  keep := fun b o e => k b o (R.keep b o e)
  gens := R.gens
  os := R.os
  nd := R.nd
  fresh := R.fresh
  objs := fun p hp => (R.objs p hp).move (fz_of_ext k) fun o e => k _ o e
  xl := fun a ha => let ⟨n, o, e⟩ := R.xl a ha; ⟨n, o, k _ _ e⟩
theorem kept_of_ext {H : AH} {s : Shared} {h' : Heap} {t : Tok} (k : ∀ b o, s.heap.get? b = some o → h'.get? b = some o) : Kept H s H { s with heap := h', toks := t } :=
  fun b o n e => ⟨k b o e, n⟩
theorem Rel.toks {C : Cfg} {H : AH} {s : Shared} (R : Rel C H s) (t : Tok) : Rel C H { s with toks := t } := R.ext fun _ _ e => e
theorem kept_toks {H : AH} {s : Shared} {t : Tok} : Kept H s H { s with toks := t } := fun b o n e => ⟨e, n⟩

theorem Rel.add {C : Cfg} {H : AH} {s : Shared} (R : Rel C H s) {h' : Heap} {t : Tok} {a : Addr} {x : AO} (k : ∀ b o, s.heap.get? b = some o → h'.get? b = some o) (ha : s.heap.objs.size ≤ a) (hx : ORel C.X h' a x) :
    Rel C ((a, x) :: H) { s with heap := h', toks := t } where
  keep := fun b o e => k b o (R.keep b o e)
  gens := R.gens
  os := R.os
  nd := List.nodup_cons.mpr ⟨fun h => absurd (R.lt h) (Nat.not_lt.mpr ha), R.nd⟩
  fresh := fun p hp => by
    rcases List.mem_cons.mp hp with rfl | hp
    · exact R.baseNew ha
    · exact R.fresh p hp
  objs := fun p hp => by
    rcases List.mem_cons.mp hp with rfl | hp
    · exact hx
    · exact (R.objs p hp).move (fz_of_ext k) fun o e => k _ o e
  xl := fun b hb => by
    obtain ⟨n, o, e⟩ := R.xl b hb
    refine ⟨fun h => ?_, o, k _ _ e⟩
    rcases List.mem_cons.mp h with rfl | h
    · exact absurd (Heap.lt_size e) (Nat.not_lt.mpr ha)
    · exact n h
theorem kept_add {H : AH} {s : Shared} {h' : Heap} {t : Tok} {a : Addr} {x : AO} (k : ∀ b o, s.heap.get? b = some o → h'.get? b = some o) (ha : s.heap.objs.size ≤ a) :
    Kept H s ((a, x) :: H) { s with heap := h', toks := t } := fun b o n e => ⟨k b o e, fun h => by
  rcases List.mem_cons.mp h with rfl | h
  · exact absurd (Heap.lt_size e) (Nat.not_lt.mpr ha)
  · exact n h⟩

inductive Upd (a : Addr) (x y : AO) : AH → AH → Prop
  | head {r} : Upd a x y ((a, x) :: r) ((a, y) :: r)
  | tail {p r r'} : Upd a x y r r' → Upd a x y (p :: r) (p :: r')
theorem Upd.mem {a : Addr} {x y : AO} {H H' : AH} (u : Upd a x y H H') : (a, x) ∈ H := by
  induction u with
  | head => exact .head _
  | tail _ ih => exact .tail _ ih
theorem Upd.keys {a : Addr} {x y : AO} {H H' : AH} (u : Upd a x y H H') : Mine.keys H' = Mine.keys H := by
  induction u with
  | head => rfl
  | tail _ ih => simp only [Mine.keys, List.map_cons] at ih ⊢; rw [ih]
theorem Upd.mem' {a : Addr} {x y : AO} {H H' : AH} (u : Upd a x y H H') : ∀ p ∈ H', p = (a, y) ∨ p ∈ H := by
  induction u with
  | head => intro p hp; rcases List.mem_cons.mp hp with rfl | hp; exact .inl rfl; exact .inr (.tail _ hp)
  | tail _ ih => intro p hp; rcases List.mem_cons.mp hp with rfl | hp; exact .inr (.head _); exact (ih p hp).imp id (.tail _)
theorem Upd.of_key {a : Addr} {x y : AO} {H H' : AH} (u : Upd a x y H H') (nd : (Mine.keys H).Nodup) : ∀ p ∈ H', p.1 = a → p = (a, y) := by
  induction u with
  | head =>
    intro p hp e
    rcases List.mem_cons.mp hp with rfl | hp
    · rfl
    · exact absurd (e ▸ List.mem_map_of_mem (f := Prod.fst) hp : a ∈ List.map Prod.fst _) (List.nodup_cons.mp nd).1
  | tail u ih =>
    intro p hp e
    obtain ⟨h1, h2⟩ := List.nodup_cons.mp nd
    rcases List.mem_cons.mp hp with rfl | hp
    · exact absurd (show p.1 ∈ List.map Prod.fst _ from e ▸ List.mem_map_of_mem (f := Prod.fst) u.mem) h1
    · exact ih h2 p hp e
theorem Rel.upd {C : Cfg} {H H' : AH} {s : Shared} (R : Rel C H s) {h' : Heap} {t : Tok} {a : Addr} {x y : AO} (u : Upd a x y H H') (k : ∀ b o, b ≠ a → s.heap.get? b = some o → h'.get? b = some o) (hy : ORel C.X h' a y) :
    Rel C H' { s with heap := h', toks := t } ∧ Kept H s H' { s with heap := h', toks := t } := by
  have ha : a ∈ keys H := List.mem_map_of_mem u.mem
  have hf : Fz C.X s.heap h' := fun b o e f => k b o (fun q => R.notin e f (q ▸ ha)) e
  refine ⟨⟨fun b o e => k b o (fun q => ?_) (R.keep b o e), R.gens, R.os, by rw [u.keys]; exact R.nd, fun p hp => ?_, fun p hp => ?_, fun b hb => ?_⟩, fun b o n e => ⟨k b o (fun q => n (q ▸ ha)) e, by rw [u.keys]; exact n⟩⟩
  · have := R.fresh _ u.mem
    rw [q] at e; rw [this] at e; cases e
  · rcases u.mem' p hp with rfl | hp
    · exact (R.fresh _ u.mem : C.B.get? a = none)
    · exact R.fresh p hp
  · by_cases q : p.1 = a
    · rw [u.of_key R.nd p hp q]; exact hy
    · rcases u.mem' p hp with rfl | hp'
      · exact absurd rfl q
      · exact (R.objs p hp').move hf fun o e => k _ o q e
  · obtain ⟨n, o, e⟩ := R.xl b hb
    exact ⟨by rw [u.keys]; exact n, o, k b o (fun q => n (q ▸ ha)) e⟩
inductive Pick (p : Addr × AO) : AH → AH → Prop
  | head {r} : Pick p (p :: r) r
  | tail {q r r'} : Pick p r r' → Pick p (q :: r) (q :: r')
inductive Sub : AH → AH → Prop
  | refl (H : AH) : Sub H H
  | drop {q A B} : Sub A B → Sub A (q :: B)
  | pick {p A B B'} : Pick p B B' → Sub A B' → Sub (p :: A) B
theorem Pick.perm {p : Addr × AO} {H H' : AH} (x : Pick p H H') : H.Perm (p :: H') := by
  induction x with
  | head => exact .refl _
  | tail _ ih => exact (ih.cons _).trans (List.Perm.swap ..)
theorem Sub.perm {H H' : AH} (x : Sub H' H) : ∃ R, H.Perm (H' ++ R) := by
  induction x with
  | refl H => exact ⟨[], by simp⟩
  | drop _ ih =>
    obtain ⟨R, h⟩ := ih
    exact ⟨_ :: R, (h.cons _).trans List.perm_middle.symm⟩
  | pick p _ ih =>
    obtain ⟨R, h⟩ := ih
    exact ⟨R, p.perm.trans (h.cons _)⟩
theorem Sub.mem {H H' : AH} (x : Sub H' H) : ∀ p ∈ H', p ∈ H := fun p hp => by
  obtain ⟨R, h⟩ := x.perm
  exact h.mem_iff.mpr (List.mem_append_left _ hp)
theorem Sub.kmem {H H' : AH} (x : Sub H' H) {a : Addr} (h : a ∈ keys H') : a ∈ keys H := by
  obtain ⟨p, hp, rfl⟩ := List.mem_map.mp h
  exact List.mem_map_of_mem (x.mem p hp)
theorem Sub.nd {H H' : AH} (x : Sub H' H) (nd : (keys H).Nodup) : (keys H').Nodup := by
  obtain ⟨R, h⟩ := x.perm
  have h2 := (h.map Prod.fst).nodup_iff.mp nd
  rw [List.map_append] at h2
  exact (List.nodup_append.mp h2).1
theorem Rel.sub {C : Cfg} {H H' : AH} {s : Shared} (R : Rel C H s) (x : Sub H' H) : Rel C H' s where
  keep := R.keep
  gens := R.gens
  os := R.os
  nd := x.nd R.nd
  fresh := fun p hp => R.fresh p (x.mem p hp)
  objs := fun p hp => R.objs p (x.mem p hp)
  xl := fun a ha => let ⟨n, e⟩ := R.xl a ha; ⟨fun h => n (x.kmem h), e⟩
theorem Kept.sub {H H' H'' : AH} {s s' : Shared} (k : Kept H s H' s') (x : Sub H'' H') : Kept H s H'' s' := fun b o n e =>
  let ⟨a, b'⟩ := k b o n e; ⟨a, fun h => b' (x.kmem h)⟩

noncomputable def WP (C : Cfg) (A : Around) {α β : Type} (T : Heap → β → α → Prop) (t : Sem α) (Q : β → AH → Prop) (H : AH) : Prop :=
  ∀ s, Rel C H s → wpAny (model C.prog C.w) A t (fun v s' => ∃ x H', Q x H' ∧ T s'.heap x v ∧ Rel C H' s' ∧ Kept H s H' s') (fun _ _ => False) s

inductive Fl where
  | next | brk | cont | ret (v : V)
noncomputable def FRel (X : List Addr) (h : Heap) : Fl → Flow → Prop
  | .next, f => f = .next
  | .brk, f => f = .brk
  | .cont, f => f = .cont
  | .ret v, f => ∃ w, f = .ret w ∧ VRel X h v w
noncomputable def BRel (_ : Heap) (a b : Bool) : Prop := b = a
noncomputable def URel (_ : Heap) (_ _ : Unit) : Prop := True

theorem Post.el {C : Cfg} {α β : Type} {T : Heap → β → α → Prop} {Q : β → AH → Prop} {H : AH} {s s' : Shared} {v : α} {G : Prop} (p : ∃ x H', Q x H' ∧ T s'.heap x v ∧ Rel C H' s' ∧ Kept H s H' s') (f : ∀ x H', Q x H' → T s'.heap x v → Rel C H' s' → Kept H s H' s' → G) : G :=
  let ⟨x, H', q, r, R, k⟩ := p; f x H' q r R k
section
variable {C : Cfg} {A : Around} {α β : Type} {T : Heap → β → α → Prop} {t : Sem α} {Q Q' : β → AH → Prop} {H H' : AH}
theorem WP.mono (h : WP C A T t Q H) (k : ∀ x H', Q x H' → Q' x H') : WP C A T t Q' H := fun s R =>
  wpAny_mono (h s R) (fun _ _ ⟨x, H', q, r⟩ => ⟨x, H', k _ _ q, r⟩) fun _ _ e => e
theorem WP.sub (x : Sub H' H) (h : WP C A T t Q H') : WP C A T t Q H := fun s R =>
  wpAny_mono (h s (R.sub x)) (fun _ _ ⟨u, H₁, q, r, R', k⟩ => ⟨u, H₁, q, r, R', fun b o n e => k b o (fun h => n (x.kmem h)) e⟩) fun _ _ e => e
end
end
set_option genInjectivity false
noncomputable section
section
variable {C : Cfg} {A : Around} {α β : Type} {T : Heap → β → α → Prop} {s : Shared} {x : β} {v : α} {Q : β → AH → Prop} {H : AH}
theorem post_ext {h' : Heap} {tk : Tok} (R : Rel C H s) (k : ∀ b o, s.heap.get? b = some o → h'.get? b = some o) (r : T h' x v) (q : Q x H) :
    ∃ x H', Q x H' ∧ T h' x v ∧ Rel C H' { s with heap := h', toks := tk } ∧ Kept H s H' { s with heap := h', toks := tk } := ⟨x, H, q, r, R.ext k, kept_of_ext k⟩
theorem post_tk {tk : Tok} (R : Rel C H s) (r : T s.heap x v) (q : Q x H) :
    ∃ x H', Q x H' ∧ T s.heap x v ∧ Rel C H' { s with toks := tk } ∧ Kept H s H' { s with toks := tk } := ⟨x, H, q, r, R.toks tk, kept_toks⟩
theorem post_id (R : Rel C H s) (r : T s.heap x v) (q : Q x H) : ∃ x H', Q x H' ∧ T s.heap x v ∧ Rel C H' s ∧ Kept H s H' s := ⟨x, H, q, r, R, Kept.refl _ _⟩
theorem post_then {s₁ : Shared} {H₁ : AH} {Q' : β → AH → Prop} (k : Kept H s H₁ s₁) {s₂ : Shared} {v : α}
    (h : ∃ x H', Q' x H' ∧ T s₂.heap x v ∧ Rel C H' s₂ ∧ Kept H₁ s₁ H' s₂) : ∃ x H', Q' x H' ∧ T s₂.heap x v ∧ Rel C H' s₂ ∧ Kept H s H' s₂ :=
  let ⟨x, H', a, b, c, d⟩ := h; ⟨x, H', a, b, c, k.trans d⟩
end

noncomputable abbrev Post (C : Cfg) {α β : Type} (T : Heap → β → α → Prop) (Q : β → AH → Prop) (H : AH) (s : Shared) : α → Shared → Prop :=
  fun v s' => ∃ x H', Q x H' ∧ T s'.heap x v ∧ Rel C H' s' ∧ Kept H s H' s'
noncomputable abbrev NoE : Value → Shared → Prop := fun _ _ => False


noncomputable def Op1 (C : Cfg) (A : Around) {α β : Type} (T : Heap → β → α → Prop) (f : Value → Sem α) (x : V) (Q : β → AH → Prop) (H : AH) : Prop :=
  ∀ v s, VRel C.X s.heap x v → Rel C H s → wpAny (model C.prog C.w) A (f v) (Post C T Q H s) NoE s
noncomputable def Op2 (C : Cfg) (A : Around) {α β : Type} (T : Heap → β → α → Prop) (f : Value → Value → Sem α) (x y : V) (Q : β → AH → Prop) (H : AH) : Prop :=
  ∀ v w s, VRel C.X s.heap x v → VRel C.X s.heap y w → Rel C H s → wpAny (model C.prog C.w) A (f v w) (Post C T Q H s) NoE s

section
variable {C : Cfg} {A : Around} {env : Env} {H : AH} {Q : V → AH → Prop}


theorem wp_BinOp {l r : Expr} {op : Operator} {pos : Pos} (h : WP C A (VRel C.X) (eval l env) (fun x H₁ => WP C A (VRel C.X) (eval r env) (fun y H₂ => Op2 C A (VRel C.X) (binaryOp op) x y Q H₂) H₁) H) :
    WP C A (VRel C.X) (eval (.BinOp l op r pos) env) Q H := fun s R =>
  wpAny_BinOp (wpAny_mono (h s R) (fun v s₁ p2 => Post.el p2 fun x H₁ q rv R₁ k => wpAny_mono (q s₁ R₁) (fun w s₂ p3 => Post.el p3 fun y H₂ q₂ rw R₂ k₂ => 
    wpAny_mono (q₂ v w s₂ (rv.fz (k₂.fz R₁)) rw R₂) (fun _ _ p => post_then k (post_then k₂ p)) fun _ _ e => e) fun _ _ e => e) fun _ _ e => e)
theorem wp_Compare {l r : Expr} {op : CmpOp} {pos : Pos} (h : WP C A (VRel C.X) (eval l env) (fun x H₁ => WP C A (VRel C.X) (eval r env) (fun y H₂ => Op2 C A (VRel C.X) (compareOp op) x y Q H₂) H₁) H)
    (hm : behindInMarks op r = false := by with_unfolding_all rfl) :
    WP C A (VRel C.X) (eval (.Compare l [op] [r] pos) env) Q H := fun s R =>
  wpAny_Compare1 (hm := hm) (wpAny_mono (h s R) (fun v s₁ p4 => Post.el p4 fun x H₁ q rv R₁ k => wpAny_mono (q s₁ R₁) (fun w s₂ p5 => Post.el p5 fun y H₂ q₂ rw R₂ k₂ => 
    wpAny_mono (q₂ v w s₂ (rv.fz (k₂.fz R₁)) rw R₂) (fun _ _ p => post_then k (post_then k₂ p)) fun _ _ e => e) fun _ _ e => e) fun _ _ e => e)
theorem wp_UnaryOp {l : Expr} {op : UnaryOp} {pos : Pos} (h : WP C A (VRel C.X) (eval l env) (fun x H₁ => Op1 C A (VRel C.X) (unaryOp op) x Q H₁) H) :
    WP C A (VRel C.X) (eval (.UnaryOp op l pos) env) Q H := fun s R =>
  wpAny_UnaryOp (wpAny_mono (h s R) (fun v s₁ p6 => Post.el p6 fun _ _ q rv R₁ k => wpAny_mono (q v s₁ rv R₁) (fun _ _ p => post_then k p) fun _ _ e => e) fun _ _ e => e)

noncomputable abbrev WPB (C : Cfg) (A : Around) (env : Env) (e : Expr) (Q : Bool → AH → Prop) (H : AH) : Prop := WP C A BRel (isTrue e env (eval e env)) Q H

theorem wp_IfExp {c a b : Expr} {pos : Pos} (h : WPB C A env c (fun t H₁ => (t = true → WP C A (VRel C.X) (eval a env) Q H₁) ∧ (t = false → WP C A (VRel C.X) (eval b env) Q H₁)) H) :
    WP C A (VRel C.X) (eval (.IfExp c a b pos) env) Q H := fun s R =>
  wpAny_IfExp (wpAny_mono (h s R) (fun t s₁ p7 => Post.el p7 fun t' _ q rt R₁ k => by
    cases rt
    cases t
    · exact wpAny_mono (q.2 rfl s₁ R₁) (fun _ _ p => post_then k p) fun _ _ e => e
    · exact wpAny_mono (q.1 rfl s₁ R₁) (fun _ _ p => post_then k p) fun _ _ e => e) fun _ _ e => e)

variable {QB : Bool → AH → Prop} {QF : Fl → AH → Prop}
theorem wpb_Compare {l r : Expr} {op : CmpOp} {pos : Pos} (h : WP C A (VRel C.X) (eval l env) (fun x H₁ => WP C A (VRel C.X) (eval r env) (fun y H₂ => Op2 C A (VRel C.X) (compareOp op) x y (fun z H₃ => Op1 C A BRel truthy z QB H₃) H₂) H₁) H)
    (hm : behindInMarks op r = false := by with_unfolding_all rfl) :
    WPB C A env (.Compare l [op] [r] pos) QB H := fun s R =>
  wpAny_isTrue_Compare1 (hm := hm) (wpAny_mono (h s R) (fun v s₁ p8 => Post.el p8 fun x H₁ q rv R₁ k => wpAny_mono (q s₁ R₁) (fun w s₂ p9 => Post.el p9 fun y H₂ q₂ rw R₂ k₂ => 
    wpAny_mono (q₂ v w s₂ (rv.fz (k₂.fz R₁)) rw R₂) (fun c s₃ p10 => Post.el p10 fun z H₃ q₃ rz R₃ k₃ => wpAny_mono (q₃ c s₃ rz R₃) (fun _ _ p => post_then k (post_then k₂ (post_then k₃ p))) fun _ _ e => e) fun _ _ e => e) fun _ _ e => e) fun _ _ e => e)
theorem wpb_value {e : Expr} (h : WP C A (VRel C.X) (eval e env) (fun x H₁ => Op1 C A BRel truthy x QB H₁) H)
    (he : ∀ whole, isTrue e env whole = (do let v ← whole; standAt e.pos; holding [v] (truthy v)) := by intro _; with_unfolding_all rfl) : WPB C A env e QB H := fun s R =>
  wpAny_isTrue_value (wpAny_mono (h s R) (fun v s₁ p12 => Post.el p12 fun _ _ q rv R₁ k => wpAny_mono (q v s₁ rv R₁) (fun _ _ p => post_then k p) fun _ _ e => e) fun _ _ e => e) (he _)
theorem wpb_Name {x : Str} {pos : Pos} (h : WP C A (VRel C.X) (eval (.Name x pos) env) (fun x H₁ => Op1 C A BRel truthy x QB H₁) H) : WPB C A env (.Name x pos) QB H := wpb_value h
theorem wpb_Attribute {o : Expr} {x : Str} {pos : Pos} (h : WP C A (VRel C.X) (eval (.Attribute o x pos) env) (fun x H₁ => Op1 C A BRel truthy x QB H₁) H) : WPB C A env (.Attribute o x pos) QB H := wpb_value h
theorem wpb_Subscript {o i : Expr} {pos : Pos} (h : WP C A (VRel C.X) (eval (.Subscript o i pos) env) (fun x H₁ => Op1 C A BRel truthy x QB H₁) H) : WPB C A env (.Subscript o i pos) QB H := wpb_value h
theorem wpb_BinOp {l r : Expr} {op : Operator} {pos : Pos} (h : WP C A (VRel C.X) (eval (.BinOp l op r pos) env) (fun x H₁ => Op1 C A BRel truthy x QB H₁) H) : WPB C A env (.BinOp l op r pos) QB H := wpb_value h
theorem wpb_BoolOp {op : BoolOp} {vs : List Expr} {pos : Pos} (h : WP C A BRel (allTrue op vs env) QB H) : WPB C A env (.BoolOp op vs pos) QB H := fun s R => wpAny_isTrue_BoolOp (h s R)
theorem wp_allAnd_nil (h : QB true H) : WP C A BRel (allTrue .And [] env) QB H := fun _ R => wpAny_allTrue_And_nil (post_id R rfl h)
theorem wp_allOr_nil (h : QB false H) : WP C A BRel (allTrue .Or [] env) QB H := fun _ R => wpAny_allTrue_Or_nil (post_id R rfl h)
theorem wp_allAnd_cons {x : Expr} {rest : List Expr} (h : WPB C A env x (fun t H₁ => (t = true → WP C A BRel (allTrue .And rest env) QB H₁) ∧ (t = false → QB false H₁)) H) : WP C A BRel (allTrue .And (x :: rest) env) QB H := fun s R =>
  wpAny_allTrue_And_cons (wpAny_mono (h s R) (fun t s₁ p13 => Post.el p13 fun t' H₁ q rt R₁ k => by
    cases rt
    cases t
    · exact ⟨_, H₁, q.2 rfl, rfl, R₁, k⟩
    · exact wpAny_mono (q.1 rfl s₁ R₁) (fun _ _ p => post_then k p) fun _ _ e => e) fun _ _ e => e)
theorem wp_allOr_cons {x : Expr} {rest : List Expr} (h : WPB C A env x (fun t H₁ => (t = true → QB true H₁) ∧ (t = false → WP C A BRel (allTrue .Or rest env) QB H₁)) H) : WP C A BRel (allTrue .Or (x :: rest) env) QB H := fun s R =>
  wpAny_allTrue_Or_cons (wpAny_mono (h s R) (fun t s₁ p14 => Post.el p14 fun t' H₁ q rt R₁ k => by
    cases rt
    cases t
    · exact wpAny_mono (q.2 rfl s₁ R₁) (fun _ _ p => post_then k p) fun _ _ e => e
    · exact ⟨_, H₁, q.1 rfl, rfl, R₁, k⟩) fun _ _ e => e)

-- statements
noncomputable abbrev WPS (C : Cfg) (A : Around) (env : Env) (b : List Stmt) (Q : Fl → AH → Prop) (H : AH) : Prop := WP C A (FRel C.X) (execs b env) Q H
noncomputable abbrev WP1 (C : Cfg) (A : Around) (env : Env) (b : Stmt) (Q : Fl → AH → Prop) (H : AH) : Prop := WP C A (FRel C.X) (exec b env) Q H

theorem wps_nil (h : QF .next H) : WPS C A env [] QF H := fun _ R => wpAny_execs_nil (post_id (x := Fl.next) R (by rfl) h)
noncomputable def Behind (C : Cfg) (A : Around) (env : Env) (rest : List Stmt) (Q : Fl → AH → Prop) : Fl → AH → Prop
  | .next, H => WPS C A env rest Q H
  | f, H => Q f H
theorem wps_cons {st : Stmt} {rest : List Stmt} (h : WP1 C A env st (Behind C A env rest QF) H) : WPS C A env (st :: rest) QF H := fun s R =>
  wpAny_execs_cons (wpAny_mono (h s R) (fun f s₁ p15 => Post.el p15 fun f' H₁ q rf R₁ k => by
    cases f' with
    | next => cases rf; exact wpAny_mono (q s₁ R₁) (fun _ _ p => post_then k p) fun _ _ e => e
    | brk => cases rf; exact ⟨.brk, H₁, q, rfl, R₁, k⟩
    | cont => cases rf; exact ⟨.cont, H₁, q, rfl, R₁, k⟩
    | ret v => obtain ⟨w, rfl, rv⟩ := rf; exact ⟨.ret v, H₁, q, ⟨w, rfl, rv⟩, R₁, k⟩) fun _ _ e => e)
theorem wps_next {rest : List Stmt} (h : WPS C A env rest QF H) : Behind C A env rest QF .next H := h

theorem wp1_Return {e : Expr} {pos : Pos} (h : WP C A (VRel C.X) (eval e env) (fun x H₁ => QF (.ret x) H₁) H) : WP1 C A env (.Return (some e) pos) QF H := fun s R =>
  wpAny_Return_some (wpAny_mono (h s R) (fun v s₁ p16 => Post.el p16 fun x H₁ q rv R₁ k => ⟨.ret x, H₁, q, ⟨v, rfl, rv⟩, R₁, k⟩) fun _ _ e => e)
theorem wp1_Return_none {pos : Pos} (h : QF (.ret .none) H) : WP1 C A env (.Return none pos) QF H := fun _ R =>
  wpAny_Return_none ⟨.ret .none, H, h, ⟨.none, rfl, by simp only [VRel]⟩, R, Kept.refl _ _⟩
theorem wp1_Continue {pos : Pos} (h : QF .cont H) : WP1 C A env (.Continue pos) QF H := fun _ R => wpAny_Continue (post_id (x := Fl.cont) R (by rfl) h)
theorem wp1_If {c : Expr} {a b : List Stmt} {pos : Pos} (h : WPB C A env c (fun t H₁ => (t = true → WPS C A env a QF H₁) ∧ (t = false → WPS C A env b QF H₁)) H) :
    WP1 C A env (.If c a b pos) QF H := fun s R =>
  wpAny_If (wpAny_mono (h s R) (fun t s₁ p17 => Post.el p17 fun t' _ q rt R₁ k => by
    cases rt
    cases t
    · exact wpAny_mono (q.2 rfl s₁ R₁) (fun _ _ p => post_then k p) fun _ _ e => e
    · exact wpAny_mono (q.1 rfl s₁ R₁) (fun _ _ p => post_then k p) fun _ _ e => e) fun _ _ e => e)
noncomputable def NoneOf (x : V) (P : Prop) : Prop := x = .none ∧ P
theorem noneOf {P : Prop} (h : P) : NoneOf .none P := ⟨rfl, h⟩
noncomputable def IntOf (x : V) (P : Int → Prop) : Prop := ∃ i, x = .int i ∧ P i
theorem intOf {i : Int} {P : Int → Prop} (h : P i) : IntOf (.int i) P := ⟨i, rfl, h⟩
noncomputable def FewOf (xs : List V) (P : Prop) : Prop := xs.length ≤ 1000 ∧ P
theorem fewOf {xs : List V} {P : Prop} (h : P) (hz : xs.length ≤ 1000 := by first | decide | simp) : FewOf xs P := ⟨hz, h⟩
theorem wp1_Expr {e : Expr} {pos : Pos} (h : WP C A (VRel C.X) (eval e env) (fun x H₁ => NoneOf x (QF .next H₁)) H) (hi : interactive env = false := by with_unfolding_all rfl) (hs : swapsWith e none pos.line env = pure false := by with_unfolding_all rfl) :
    WP1 C A env (.Expr e pos) QF H := fun s R =>
  wpAny_Expr (hi := hi) (hs := hs) (wpAny_mono (h s R) (fun v s₁ p18 => Post.el p18 fun x H₁ p19 rv R₁ k => p19.elim fun hx q => by subst hx; simp only [VRel] at rv; subst rv; exact ⟨.next, H₁, q, rfl, R₁, k⟩) fun _ _ e => e)

-- values of ints
theorem op_add_int {a b : Int} (q : Q (.int (a + b)) H) : Op2 C A (VRel C.X) (binaryOp .Add) (.int a) (.int b) Q H := fun v w s hv hw R => by
  simp only [VRel] at hv hw; obtain ⟨t, rfl⟩ := hv; obtain ⟨u, rfl⟩ := hw
  exact PyProof.Rows.add_int (post_tk (s := s) (x := V.int _) R ⟨_, rfl⟩ q)
end
end
noncomputable section
structure Cfg.Ok (C : Cfg) (gl : List (Str × V)) : Prop where
  kin : C.K.In C.B
  g : C.B.Ns mainGlobals C.mg
  b : C.B.Ns builtinsNs C.mb
  nolimit : C.B.NoLimit
  gl : ∀ p ∈ gl, ∃ v, VRel C.X C.B p.2 v ∧ (C.mg p.1 = some v ∨ (C.mg p.1 = none ∧ C.mb p.1 = some v))
  bmain : ∃ bm ob, C.mg "__builtins__" = some (.ref bm) ∧ bm ≠ builtinsNs ∧ C.B.get? bm = some ob ∧ ob.cls = .type "module" ∧ ob.dict = some builtinsNs ∧ ob.data = .plain

theorem fz_of_keep {X : List Addr} {h h' : Heap} (k : ∀ b o, h.get? b = some o → h'.get? b = some o) : Fz X h h' := fun a o e _ => k a o e

structure FEnv (env : Env) (L : Addr) (ln : List Str) (cn : List (Str × Addr)) (gn : List Str) : Prop where
  kind : env.scope.kind = .function
  loc : env.locals = L
  glob : env.globals = mainGlobals
  blt : env.builtins = builtinsNs
  hl : ∀ x ∈ ln, env.kindOf x = some .local ∧ (x == ("__debug__" : Str)) = false
  hc : ∀ p ∈ cn, (env.kindOf p.1 = some .cell ∨ env.kindOf p.1 = some .free) ∧ env.cells.lookup p.1 = some p.2 ∧ (p.1 == ("__debug__" : Str)) = false ∧ (p.1 == ("__classdict__" : Str)) = false
  hg : ∀ x ∈ gn, env.kindOf x = some .globalImplicit ∧ (x == ("__debug__" : Str)) = false

section
variable {C : Cfg} {gl : List (Str × V)} {A : Around} {env : Env} {L : Addr} {ln : List Str} {cn : List (Str × Addr)} {gn : List Str} {vals vals' : List (Option V)} {x : Str} {v : V} {pos : Pos} {c : Addr} {H H' : AH} {Q : V → AH → Prop}

theorem wp_local (FE : FEnv env L ln cn gn) {H : AH} {Q : V → AH → Prop} (hL : (L, AO.ns ln vals) ∈ H) (ha : At ln vals x v) (q : Q v H) : WP C A (VRel C.X) (eval (.Name x pos) env) Q H := fun s R => by
  obtain ⟨nd, m, hn, hr⟩ := R.objs _ hL
  obtain ⟨w, hw, rw⟩ := ha.get hr
  obtain ⟨h1, h2⟩ := FE.hl x ha.mem
  refine wpAny_Name (wpAny_loadName_local FE.kind h1 (FE.loc ▸ hn) hw (post_id R rw q)) h2
theorem load_local (FE : FEnv env L ln cn gn) {H : AH} {Q : V → AH → Prop} (hL : (L, AO.ns ln vals) ∈ H) (ha : At ln vals x v) (q : Q v H) : WP C A (VRel C.X) (loadName env x) Q H := fun s R => by
  obtain ⟨nd, m, hn, hr⟩ := R.objs _ hL
  obtain ⟨w, hw, rw⟩ := ha.get hr
  obtain ⟨h1, h2⟩ := FE.hl x ha.mem
  exact wpAny_loadName_local FE.kind h1 (FE.loc ▸ hn) hw (post_id R rw q)
theorem load_cell (FE : FEnv env L ln cn gn) {H : AH} {Q : V → AH → Prop} (hx : (x, c) ∈ cn) (hc : (c, AO.cell (some v)) ∈ H) (q : Q v H) : WP C A (VRel C.X) (loadName env x) Q H := fun s R => by
  obtain ⟨y, hy, k⟩ := R.objs _ hc
  obtain ⟨w, rfl, rw⟩ := k v rfl
  obtain ⟨h1, h2, h3, h4⟩ := FE.hc _ hx
  rcases h1 with h1 | h1
  · exact wpAny_loadName_cell FE.kind h1 h2 hy (post_id R rw q)
  · exact wpAny_loadName_free FE.kind h1 h2 hy (post_id R rw q) h4
theorem wp_cell (FE : FEnv env L ln cn gn) {H : AH} {Q : V → AH → Prop} (hx : (x, c) ∈ cn) (hc : (c, AO.cell (some v)) ∈ H) (q : Q v H) : WP C A (VRel C.X) (eval (.Name x pos) env) Q H := fun s R =>
  wpAny_Name (load_cell FE hx hc q s R) (FE.hc _ hx).2.2.1
theorem wp_glob (G : C.Ok gl) (FE : FEnv env L ln cn gn) {H : AH} {Q : V → AH → Prop} (hg : (x, v) ∈ gl) (hx : x ∈ gn) (q : Q v H) : WP C A (VRel C.X) (eval (.Name x pos) env) Q H := fun s R => by
  obtain ⟨w, rw, hw⟩ := G.gl _ hg
  obtain ⟨h1, h2⟩ := FE.hg x hx
  have rw' := rw.fz (fz_of_keep R.keep)
  refine Name_function_global FE.kind h1 ?_ h2
  have hG : s.heap.Ns env.globals C.mg := by rw [FE.glob]; exact G.g.keeps R.keep
  have hB : s.heap.Ns env.builtins C.mb := by rw [FE.blt]; exact G.b.keeps R.keep
  rcases hw with hw | ⟨hw, hw'⟩
  · exact loadGlobal_global hG hw (post_id R rw' q)
  · exact loadGlobal_builtin hG hw hB hw' (post_id R rw' q)

variable {QU : Unit → AH → Prop} {QF : Fl → AH → Prop}
theorem store_local (FE : FEnv env L ln cn gn) {H H' : AH} {QU : Unit → AH → Prop} (hu : Upd L (.ns ln vals) (.ns ln vals') H H') (hp : Put ln vals x v vals') (q : QU () H') : Op1 C A URel (storeName env x) v QU H := fun w s rw R => by
  obtain ⟨nd, m, hn, hr⟩ := R.objs _ hu.mem
  obtain ⟨h1, h2⟩ := FE.hl x hp.mem
  have hLk : L ∈ keys H := List.mem_map_of_mem (f := Prod.fst) hu.mem
  refine wpAny_storeName_local h1 (FE.loc ▸ hn) (fun h' hn' hs' => ?_) (by rw [FE.kind]; rfl)
  rw [FE.loc] at hn' hs'
  have hf : Fz C.X s.heap h' := fun a o e f => hs'.extBut a o (fun q => R.notin e f (q ▸ hLk)) e
  obtain ⟨R', k'⟩ := R.upd hu (h' := h') (t := s.toks + 1) (fun b o n e => hs'.extBut b o n e) ⟨nd, _, hn', (hp.rel rw nd hr).fz hf⟩
  exact ⟨(), H', q, trivial, R', k'⟩
theorem store_cell (FE : FEnv env L ln cn gn) {o : Option V} {H H' : AH} {QU : Unit → AH → Prop} (hx : (x, c) ∈ cn) (hu : Upd c (.cell o) (.cell (some v)) H H') (q : QU () H') : Op1 C A URel (storeName env x) v QU H := fun w s rw R => by
  obtain ⟨y, hy, k⟩ := R.objs _ hu.mem
  obtain ⟨h1, h2, h3, h4⟩ := FE.hc _ hx
  have hck : c ∈ keys H := List.mem_map_of_mem (f := Prod.fst) hu.mem
  have fin : ∀ h' tk, h'.IsCell c (some w) → Heap.SameBut c s.heap h' → ∃ x H'', QU x H'' ∧ URel h' x () ∧ Rel C H'' { s with heap := h', toks := tk } ∧ Kept H s H'' { s with heap := h', toks := tk } := fun h' tk hc' hs' => by
    have hf : Fz C.X s.heap h' := fun a o e f => hs'.extBut a o (fun q => R.notin e f (q ▸ hck)) e
    obtain ⟨R', k'⟩ := R.upd hu (h' := h') (t := tk) (fun b o n e => hs'.extBut b o n e) ⟨some w, hc', fun z hz => by cases hz; exact ⟨w, rfl, rw.fz hf⟩⟩
    exact ⟨(), H', q, trivial, R', k'⟩
  rcases h1 with h1 | h1
  · exact wpAny_storeName_cell FE.kind h1 h2 hy fun h' hc' hs' => fin h' _ hc' hs'
  · unfold storeName
    simp only [h1, FE.kind]
    exact wpAny_bind (wpAny_cellOf h2 (wpAny_cellSet hy fun h' hc' hs' => fin h' _ hc' hs'))

noncomputable abbrev WPA (C : Cfg) (A : Around) (env : Env) (t : Expr) (v : V) (Q : Unit → AH → Prop) (H : AH) : Prop := Op1 C A URel (assign t env) v Q H
theorem asg_Name (h : Op1 C A URel (storeName env x) v QU H) : WPA C A env (.Name x pos) v QU H := fun w s rw R => wpAny_assign_Name (h w s rw R)

theorem wp1_Assign_Name {value : Expr} {pos' : Pos} (h : WP C A (VRel C.X) (eval value env) (fun v H₁ => Op1 C A URel (storeName env x) v (fun _ H₂ => QF .next H₂) H₁) H)
    (hs : swapsWith value (some (.Name x pos')) pos.line env = pure false := by with_unfolding_all rfl) : WP1 C A env (.Assign [.Name x pos'] value pos) QF H := fun s R =>
  wpAny_Assign_Name (hs := hs) (wpAny_mono (h s R) (fun w s₁ p20 => Post.el p20 fun v H₁ q rw R₁ k => wpAny_mono (q w s₁ rw R₁) (fun _ _ p21 => Post.el p21 fun _ H₂ q₂ _ R₂ k₂ => ⟨.next, H₂, q₂, rfl, R₂, k.trans k₂⟩) fun _ _ e => e) fun _ _ e => e)
theorem wp1_Aug_Name {value : Expr} {pos' : Pos} {op : Operator} (h : WP C A (VRel C.X) (loadName env x) (fun u H₁ => WP C A (VRel C.X) (eval value env) (fun v H₂ => Op2 C A (VRel C.X) (inplaceOp op) u v (fun r H₃ => Op1 C A URel (storeName env x) r (fun _ H₄ => QF .next H₄) H₃) H₂) H₁) H) :
    WP1 C A env (.AugAssign (.Name x pos') op value pos) QF H := fun s R =>
  wpAny_AugAssign_Name (wpAny_mono (h s R) (fun u s₁ p22 => Post.el p22 fun u' H₁ q ru R₁ k => wpAny_mono (q s₁ R₁) (fun v s₂ p23 => Post.el p23 fun v' H₂ q₂ rv R₂ k₂ => 
    wpAny_mono (q₂ u v s₂ (ru.fz (k₂.fz R₁)) rv R₂) (fun r s₃ p24 => Post.el p24 fun r' H₃ q₃ rr R₃ k₃ => wpAny_mono (q₃ r s₃ rr R₃) (fun _ _ p25 => Post.el p25 fun _ H₄ q₄ _ R₄ k₄ => 
      ⟨.next, H₄, q₄, rfl, R₄, ((k.trans k₂).trans k₃).trans k₄⟩) fun _ _ e => e) fun _ _ e => e) fun _ _ e => e) fun _ _ e => e)

-- constants
theorem wp_int {i : Int} {k : Nat} (q : Q (.int i) H) : WP C A (VRel C.X) (eval (.Constant (.int i) k pos) env) Q H := fun s R => wpAny_Constant_int (post_tk (s := s) (x := V.int i) R ⟨_, rfl⟩ q)
theorem wp_str {i : Str} {k : Nat} (q : Q (.str i) H) : WP C A (VRel C.X) (eval (.Constant (.str i) k pos) env) Q H := fun s R => wpAny_Constant_str (post_tk (s := s) (x := V.str i) R ⟨_, rfl⟩ q)
theorem wp_bytes {i : List UInt8} {k : Nat} (q : Q (.bytes i.toArray) H) : WP C A (VRel C.X) (eval (.Constant (.bytes i) k pos) env) Q H := fun s R => Constant_bytes (post_tk (s := s) (x := V.bytes i.toArray) R ⟨_, rfl⟩ q)

-- arguments
noncomputable abbrev WPL (C : Cfg) (A : Around) (env : Env) (pos : Pos) (es : List Expr) (Q : List V → AH → Prop) (H : AH) : Prop := WP C A (VsRel C.X) (spliced (backTo pos (starEach es env))) Q H
variable {QL : List V → AH → Prop}
theorem wpl_nil (q : QL [] H) : WPL C A env pos [] QL H := fun s R => wpAny_items_nil (post_id (s := s) (x := []) R VsRel.nil q)
theorem wpl_cons {e : Expr} {es : List Expr} (h : WP C A (VRel C.X) (eval e env) (fun x H₁ => WPL C A env pos es (fun xs H₂ => QL (x :: xs) H₂) H₁) H)
    (he : starEach (e :: es) env = (false, eval e env) :: starEach es env := by with_unfolding_all rfl) : WPL C A env pos (e :: es) QL H := fun s R =>
  wpAny_items_cons (he := he) (wpAny_mono (h s R) (fun v s₁ p26 => Post.el p26 fun x H₁ q rv R₁ k => wpAny_mono (q s₁ R₁) (fun vs s₂ p27 => Post.el p27 fun xs H₂ q₂ rvs R₂ k₂ => ⟨x :: xs, H₂, q₂, .cons (rv.fz (k₂.fz R₁)) rvs, R₂, k.trans k₂⟩) fun _ _ e => e) fun _ _ e => e)

-- calls
noncomputable def KeepsOk (M : Model) (A : Around) (fv : Value) (s : Shared) : Prop := ∃ k, ∀ Q : Keeper → Shared → Prop, Q k s → wpAny M A (keeperOf fv) Q NoE s
noncomputable def WPC (C : Cfg) (A : Around) (f : V) (args : List V) (Q : V → AH → Prop) (H : AH) : Prop :=
  ∀ fv avs s, VRel C.X s.heap f fv → VsRel C.X s.heap args avs → Rel C H s → KeepsOk (model C.prog C.w) A fv s ∧ wpAny (model C.prog C.w) A (call fv avs) (Post C (VRel C.X) Q H s) NoE s

theorem callWith_K {M : Model} {E : Value → Shared → Prop} {s : Shared} {fv : Value} {first : List Value} {args : List (Bool × Sem Value)} {P : Value → Shared → Prop} (hplain : args.any (·.1) = false)
    (h : wpAny M A (evalArgs fv true args []) (fun a s₁ => a.kw = [] ∧ (∃ k, ∀ Q : Keeper → Shared → Prop, Q k s₁ → wpAny M A (keeperOf fv) Q E s₁) ∧ wpAny M A (call fv (first ++ a.pos)) P E s₁) E s) :
    wpAny M A (callWith pos fv first args []) P E s := by
  unfold callWith
  refine wpAny_bind (wpAny_holding (wpAny_mono h (fun a s₁ h₁ => wpAny_bind (wpAny_standAt ?_)) fun _ _ x => x))
  obtain ⟨apos, akw⟩ := a
  obtain ⟨hkw, ⟨k, hk⟩, hc⟩ := h₁
  obtain rfl : akw = [] := hkw
  simp only [hplain, List.any_nil, Bool.or_false]
  have tail : ∀ {t : Sem Value}, wpAny M A t P E s₁ → wpAny M A (t >>= fun r => holding [r] point >>= fun _ => pure r) P E s₁ :=
    fun ht => wpAny_bind (wpAny_mono ht (fun r s₂ hr => wpAny_bind (wpAny_holding (wpAny_point (wpAny_pure hr)))) fun _ _ x => x)
  refine wpAny_bind (hk _ ?_)
  cases k with
  | frame =>
    simp only []
    split
    · exact tail hc
    · exact tail (by unfold callMarked; exact wpAny_keep hc)
  | boundFrame =>
    simp only []
    split
    · exact tail hc
    · exact tail (by unfold callMarked; exact wpAny_keep hc)
  | machine => exact tail hc
  | caller => exact tail (wpAny_operateT hc)

noncomputable def ArgsRel (X : List Addr) (h : Heap) (xs : List V) (a : Args) : Prop := a.kw = [] ∧ VsRel X h xs a.pos
noncomputable def WPG (C : Cfg) (A : Around) (env : Env) (pos : Pos) (es : List Expr) (Q : List V → AH → Prop) (H : AH) : Prop :=
  (backTo pos (starEach es env)).any (·.1) = false ∧ ∀ f, WP C A (ArgsRel C.X) (evalArgs f true (backTo pos (starEach es env)) []) Q H
theorem wpg_nil (q : QL [] H) : WPG C A env pos [] QL H := ⟨rfl, fun f s R => PySem.evalArgs_none (post_id (s := s) (x := []) R ⟨rfl, VsRel.nil⟩ q)⟩
theorem wpg_cons {e : Expr} {es : List Expr} (h : WPL C A env pos (e :: es) QL H) (he : starEach (e :: es) env = (false, eval e env) :: starEach es env := by with_unfolding_all rfl)
    (hst : (backTo pos (starEach (e :: es) env)).any (·.1) = false := by with_unfolding_all rfl) : WPG C A env pos (e :: es) QL H := ⟨hst, fun f s R => by
  have h' := h s R
  rw [he] at h' ⊢
  exact evalArgs_plain (wpAny_mono h' (fun vs s₁ p28 => Post.el p28 fun xs H₁ q r R₁ k => ⟨xs, H₁, q, ⟨rfl, r⟩, R₁, k⟩) fun _ _ e => e)⟩

theorem wp_callWith {fv : Value} {f : V} {first : List V} {fs : List Value} {es : List Expr} {s : Shared} (h : WPG C A env pos es (fun xs H₁ => WPC C A f (first ++ xs) Q H₁) H)
    (rf : VRel C.X s.heap f fv) (rfs : VsRel C.X s.heap first fs) (R : Rel C H s) : wpAny (model C.prog C.w) A (callWith pos fv fs (backTo pos (starEach es env)) []) (Post C (VRel C.X) Q H s) NoE s :=
  callWith_K h.1 (wpAny_mono (h.2 fv s R) (fun a s₁ p29 => Post.el p29 fun xs H₁ q p30 R₁ k => p30.elim fun hk ra => by
    obtain ⟨h1, h2⟩ := q fv (fs ++ a.pos) s₁ (rf.fz (k.fz R)) ((rfs.fz (k.fz R)).append ra) R₁
    exact ⟨hk, h1, wpAny_mono h2 (fun _ _ p => post_then k p) fun _ _ e => e⟩) fun _ _ e => e)

theorem wp_Call_Name {x : Str} {np : Pos} {es : List Expr} (h : WP C A (VRel C.X) (eval (.Name x np) env) (fun f H₁ => WPG C A env pos es (fun xs H₂ => WPC C A f xs Q H₂) H₁) H) :
    WP C A (VRel C.X) (eval (.Call (.Name x np) es [] pos) env) Q H := fun s R =>
  wpAny_Call_ofName (wpAny_mono (h s R) (fun fv s₁ p31 => Post.el p31 fun f H₁ q rf R₁ k => wpAny_mono (wp_callWith (first := []) q rf VsRel.nil R₁) (fun _ _ p => post_then k p) fun _ _ e => e) fun _ _ e => e)

noncomputable def MRel (X : List Addr) (h : Heap) (p : V × List V) (q : Value × List Value) : Prop := VRel X h p.1 q.1 ∧ VsRel X h p.2 q.2
noncomputable def WPM (C : Cfg) (A : Around) (x : V) (name : Str) (Q : V → List V → AH → Prop) (H : AH) : Prop := ∀ pl, Op1 C A (MRel C.X) (fun v => getMethod v name pl) x (fun p H₁ => Q p.1 p.2 H₁) H
theorem wp_Call_Attr {o : Expr} {name : Str} {apos : Pos} {es : List Expr}
    (h : WP C A (VRel C.X) (eval o env) (fun x H₁ => WPM C A x name (fun f first H₂ => WPG C A env pos es (fun xs H₃ => WPC C A f (first ++ xs) Q H₃) H₂) H₁) H)
    (hbase : attributeBase o name env (eval o env) = eval o env := by with_unfolding_all rfl)
    (hfew : ((backTo pos (starEach es env)).all (fun x => !x.1) && (backToKw pos (keywordEach [] env)).all (fun x => x.1.isSome)
      && decide (es.length + ([] : List Keyword).length + (if ([] : List Keyword).isEmpty then 0 else 1) < 30)) = true := by with_unfolding_all rfl)
    (hline : (apos.endLine == pos.line) = true := by with_unfolding_all rfl) :
    WP C A (VRel C.X) (eval (.Call (.Attribute o name apos) es [] pos) env) Q H := fun s R => by
  rw [arm_eval_Call, hbase]
  refine wpAny_bind (wpAny_mono (h s R) (fun ov s₁ p32 => Post.el p32 fun x H₁ q rx R₁ k => ?_) fun _ _ e => e)
  refine wpAny_bind (wpAny_standAt ?_)
  have hform : methodCallForm (es.length + ([] : List Keyword).length) (backTo pos (starEach es env)) (backToKw pos (keywordEach [] env)) = true := hfew
  have hpos : methodCallPos true o env apos pos = pure pos := by unfold methodCallPos; simp [hline]
  unfold methodCall
  rw [hform]
  refine wpAny_bind (wpAny_holding ?_)
  show wpAny _ A (getMethod ov name _) _ _ _
  refine wpAny_mono (q _ ov s₁ rx R₁) (fun p s₂ p33 => Post.el p33 fun y H₂ q₂ p34 R₂ k₂ => p34.elim fun r1 r2 => ?_) fun _ _ e => e
  refine wpAny_bind (wpAny_of_eq hpos ?_)
  exact wpAny_mono (wp_callWith q₂ r1 r2 R₂) (fun _ _ p => post_then k (post_then k₂ p)) fun _ _ e => e

-- displays
theorem wp_Tuple {es : List Expr} {k : Nat} (h : WPL C A env pos es (fun xs H₁ => FewOf xs (Q (.tup xs) H₁)) H) : WP C A (VRel C.X) (eval (.Tuple es k pos) env) Q H := fun s R =>
  wpAny_Tuple (wpAny_mono (h s R) (fun vs s₁ p35 => Post.el p35 fun xs H₁ p36 r R₁ k => p36.elim fun hz q => by
    have hl := r.length
    have ext : ∀ b o, s₁.heap.get? b = some o → (s₁.heap.push { cls := .type "tuple", data := .seq vs.toArray }).get? b = some o := fun b o e => Heap.get?_push_of_some _ e
    refine ⟨by rw [hl, sizeLine_eq]; lia, post_then k (post_ext (s := s₁) (h' := s₁.heap.push { cls := .type "tuple", data := .seq vs.toArray }) (tk := s₁.toks) (x := V.tup xs) R₁ ext ?_ q)⟩
    simp only [VRel]
    exact ⟨_, vs.toArray, rfl, fun hX => let ⟨_, o, e⟩ := R₁.xl _ hX; Nat.lt_irrefl _ (Heap.lt_size e), ⟨_, Heap.get?_push_size _ rfl, rfl, 0, rfl⟩, by simpa using r.fz (fz_of_ext ext)⟩) fun _ _ e => e)
theorem wp_List {es : List Expr} (h : WPL C A env pos es (fun xs H₁ => FewOf xs (∀ a, Q (.ref a) ((a, .list xs) :: H₁))) H) : WP C A (VRel C.X) (eval (.List es pos) env) Q H := fun s R =>
  wpAny_List (wpAny_mono (h s R) (fun vs s₁ p37 => Post.el p37 fun xs H₁ p38 r R₁ k => p38.elim fun hz q => by
    have hl := r.length
    have ext : ∀ b o, s₁.heap.get? b = some o → (s₁.heap.push { cls := .type "list", data := .seq vs.toArray }).get? b = some o := fun b o e => Heap.get?_push_of_some _ e
    refine ⟨by rw [hl, sizeLine_eq]; lia, ⟨.ref s₁.heap.objs.size, (s₁.heap.objs.size, .list xs) :: H₁, q _, rfl, R₁.add ext (Nat.le_refl _) ?_, k.trans (kept_add ext (Nat.le_refl _))⟩⟩
    exact ⟨vs.toArray, ⟨0, Heap.get?_push_size _ rfl⟩, by simpa using r.fz (fz_of_ext ext)⟩) fun _ _ e => e)
end
end
noncomputable section
theorem NsRel.of_get {X : List Addr} {h : Heap} {m : Str → Option Value} : ∀ {ns : List Str} {os : List (Option V)}, os.length = ns.length →
    (∀ (i : Nat) n u, ns[i]? = some n → os[i]? = some (some u) → ∃ v, m n = some v ∧ VRel X h u v) → NsRel X h m ns os
  | [], os, e, _ => List.length_eq_zero_iff.mp e
  | n :: ns, [], e, _ => by simp at e
  | n :: ns, o :: os, e, k => ⟨o, os, rfl, fun u hu => k 0 n u (by simp) (by simp [hu]), NsRel.of_get (by simpa using e) fun i n' u h1 h2 => k (i + 1) n' u (by simpa using h1) (by simpa using h2)⟩

theorem lookup_of_mem {β : Type} : ∀ {l : List (Str × β)} {x : Str} {v : β}, (l.map (·.1)).Nodup → (x, v) ∈ l → l.lookup x = some v
  | (y, w) :: r, x, v, nd, h => by
    obtain ⟨h1, h2⟩ := List.nodup_cons.mp nd
    rw [List.lookup_cons]
    rcases List.mem_cons.mp h with e | h
    · cases e; simp
    · have : (x == y) = false := by
        apply beq_eq_false_iff_ne.mpr
        intro e
        exact h1 (e ▸ (List.mem_map_of_mem (f := Prod.fst) h : x ∈ r.map Prod.fst))
      rw [this]
      exact lookup_of_mem h2 h

theorem lookup_rev {β : Type} {l : List (Str × β)} {x : Str} {v : β} (nd : (l.map (·.1)).Nodup) (h : (x, v) ∈ l) : l.reverse.lookup x = some v :=
  lookup_of_mem (by rw [List.map_reverse]; exact List.pairwise_reverse.mpr (nd.imp fun h => h.symm)) (List.mem_reverse.mpr h)

theorem lookup_snoc {β : Type} {l : List (Str × β)} {n x : Str} {v : β} : (l.reverse ++ [(n, v)]).lookup x = (l.reverse.lookup x).or (if x = n then some v else none) := by
  rw [List.lookup_append]
  congr 1
  rw [List.lookup_cons]
  cases e : x == n with
  | true => rw [if_pos (beq_iff_eq.mp e)]
  | false => rw [if_neg (beq_eq_false_iff_ne.mp e)]; rfl

theorem bindL_eq (k : Str → Option NameKind) : ∀ (binds : List (Str × Value)) (m : Str → Option Value) (x : Str), k x = some .local → bindL k binds m x = (binds.reverse.lookup x).or (m x)
  | [], m, x, _ => by simp [bindL]
  | (n, v) :: r, m, x, hx => by
    rw [bindL, bindL_eq k r _ x hx, List.reverse_cons, lookup_snoc, Option.or_assoc]
    congr 1
    by_cases hn : k n = some .local
    · rw [if_pos hn]
      by_cases e : x = n
      · simp [e]
      · simp [e]
    · rw [if_neg hn]
      have : x ≠ n := fun e => hn (e ▸ hx)
      simp [this]
theorem bindC_eq (k : Str → Option NameKind) : ∀ (binds : List (Str × Value)) (m : Str → Option Value) (x : Str), k x ≠ some .local → bindC k binds m x = (binds.reverse.lookup x).or (m x)
  | [], m, x, _ => by simp [bindC]
  | (n, v) :: r, m, x, hx => by
    rw [bindC, bindC_eq k r _ x hx, List.reverse_cons, lookup_snoc, Option.or_assoc]
    congr 1
    by_cases hn : k n = some .local
    · rw [if_pos hn]
      have : x ≠ n := fun e => hx (e ▸ hn)
      simp [this]
    · rw [if_neg hn]
      by_cases e : x = n
      · simp [e]
      · simp [e]

inductive Init : List Str → List V → List (Option V) → Prop
  | done : Init [] [] []
  | arg {n ln x xs vals} : Init ln xs vals → Init (n :: ln) (x :: xs) (some x :: vals)
  | none {n ln vals} : Init ln [] vals → Init (n :: ln) [] (Option.none :: vals)
theorem Init.len {ln xs vals} (i : Init ln xs vals) : vals.length = ln.length := by
  induction i <;> simp [*]
theorem Init.le {ln xs vals} (i : Init ln xs vals) : xs.length ≤ ln.length := by
  induction i with
  | done => simp
  | arg _ ih => simp; lia
  | none _ ih => simp
theorem Init.at {ln xs vals} (i : Init ln xs vals) : ∀ (k : Nat) u, vals[k]? = some (some u) → xs[k]? = some u := by
  induction i with
  | done => intro k u h; simp at h
  | arg _ ih => intro k u h; cases k with
    | zero => simpa using h
    | succ k => simpa using ih k u (by simpa using h)
  | none _ ih => intro k u h; cases k with
    | zero => simp at h
    | succ k => have := ih k u (by simpa using h); simp at this

structure FnB (h : Heap) (fa : Addr) (F : FnA) (cd : Value) (o : Obj) (fd : FuncData) : Prop where
  get : h.get? fa = some o
  dat : o.data = .func fd
  r1 : fd.qualname = F.qual
  r2 : fd.params = F.params
  r3 : fd.body = F.body
  r4 : fd.scope = F.scope
  r5 : fd.closure = F.closure
  r6 : fd.globals = mainGlobals
  r7 : fd.builtins = builtinsNs
  r8 : fd.defaults = .none
  r9 : fd.kwdefaults = .none
  r10 : fd.code = cd
  code : h.CodeRec cd F.qual
structure FnAt (h : Heap) (fa : Addr) (F : FnA) (cd : Value) : Prop where
  ex : ∃ o fd, FnB h fa F cd o fd
theorem FnAt.keeps {h h' : Heap} {fa : Addr} {F : FnA} {cd : Value} (x : FnAt h fa F cd) (k : ∀ b o, h.get? b = some o → h'.get? b = some o) : FnAt h' fa F cd :=
  ⟨x.ex.elim fun o p => p.elim fun fd q => ⟨o, fd, { q with get := k _ _ q.get, code := q.code.keeps k }⟩⟩

noncomputable def envF (F : FnA) (L fa : Addr) (cd : Value) (cells : List (Str × Addr)) : Env :=
  { scope := F.scope, locals := L, globals := mainGlobals, cells := cells, qual := F.qual ++ ".<locals>.", func := some fa, code := cd, frame := some L, builtins := builtinsNs }

noncomputable def Binds (F : FnA) (pn : List Str) : Prop := ∀ (fd : FuncData) (vs : List Value), fd.params = F.params → fd.defaults = .none → fd.kwdefaults = .none → vs.length = pn.length → bindArgs fd ⟨vs, []⟩ = pure (pn.zip vs)

noncomputable def Fl.val : Fl → V
  | .ret v => v
  | _ => .none

structure Room (A : Around) (n : Nat) : Prop where
  hd : A.handled = none
  depth : A.depth + n < 900
  units : A.units + 8 * n + 100 < 9900
theorem Room.deeper {A : Around} {n : Nat} (r : Room A (n + 1)) (env : Env) : Room (A.deeper env) n :=
  ⟨r.hd, by have := r.depth; simp only [Around.deeper]; lia, by have := r.units; simp only [Around.deeper]; lia⟩
theorem Room.mono {A : Around} {n m : Nat} (r : Room A n) (h : m ≤ n) : Room A m := ⟨r.hd, by have := r.depth; lia, by have := r.units; lia⟩

section
variable {C : Cfg} {gl : List (Str × V)} {A : Around} {H H' : AH} {Q : V → AH → Prop}

theorem zip_fst_sub {α β : Type} : ∀ (l : List α) (r : List β), ((l.zip r).map (·.1)).Sublist l
  | [], _ => by simp
  | _ :: _, [] => by simp
  | a :: l, b :: r => by simpa using zip_fst_sub l r
theorem zip_take_nodup {ln : List Str} (nd : ln.Nodup) (vs : List Value) (n : Nat) : (((ln.take n).zip vs).map (·.1)).Nodup := by
  exact (nd.sublist (List.take_sublist _ _)).sublist (zip_fst_sub _ _)

theorem ns_init {X : List Addr} {h : Heap} {ln : List Str} {xs : List V} {vals : List (Option V)} {vs : List Value} {m : Str → Option Value} (nd : ln.Nodup) (i : Init ln xs vals) (r : VsRel X h xs vs)
    (hm : ∀ x ∈ ln, ∀ v, ((ln.take xs.length).zip vs).reverse.lookup x = some v → m x = some v) : NsRel X h m ln vals := by
  refine NsRel.of_get i.len fun k n u h1 h2 => ?_
  obtain ⟨v, hv, rv⟩ := r.get (i.at k u h2)
  have hk : k < xs.length := by
    have := i.at k u h2
    exact (List.getElem?_eq_some_iff.mp this).1
  refine ⟨v, hm n (List.mem_of_getElem? h1) v ?_, rv⟩
  refine lookup_rev (zip_take_nodup nd _ _) ?_
  refine List.mem_iff_getElem?.mpr ⟨k, ?_⟩
  rw [List.getElem?_zip_eq_some]
  exact ⟨by rw [List.getElem?_take, if_pos hk]; exact h1, hv⟩

theorem code_fn {fa : Addr} {F : FnA} {D : Value → Prop} {ln : List Str} {xs : List V} {vals : List (Option V)} {body : List Stmt} {n : Nat}
    (G : C.Ok gl) (hF : ∀ s, Rel C H s → ∃ cd, D cd ∧ FnAt s.heap fa F cd) (hroom : Room A (n + 1)) (hb : F.body = .stmts body) (hbind : Binds F (ln.take xs.length))
    (hln : ∀ x ∈ ln, F.scope.names.lookup x = some .local) (nd : ln.Nodup) (hcell : ∀ x ∈ F.scope.names, x.2 ≠ .cell) (i : Init ln xs vals)
    (h : ∀ L cd, D cd → WPS C (A.deeper (envF F L fa cd F.closure)) (envF F L fa cd F.closure) body (fun fl H₁ => ∃ H₂, Sub H₂ H₁ ∧ Q fl.val H₂) ((L, .ns ln vals) :: H))
    (hco : F.scope.isCoroutine = false := by with_unfolding_all rfl) (hgen : F.scope.isGenerator = false := by with_unfolding_all rfl) (hk : F.scope.kind = .function := by with_unfolding_all rfl) :
    ∀ avs s, VsRel C.X s.heap xs avs → Rel C H s → codeAny (model C.prog C.w) A (.call (.ref fa) ⟨avs, []⟩) (fun r s' => match r with | .ok (.ret v) => Post C (VRel C.X) Q H s v s' | .ok _ => False | .error e => NoE e s') s := fun avs s ra R => by
  obtain ⟨cd, hD, hFn⟩ := hF s R
  obtain ⟨o, fd, ho, hd, e1, e2, e3, e4, e5, e6, e7, e8, e9, e10, hrec⟩ := hFn.ex
  have hlen := ra.length
  · have hA : A.depth < recursionLimit := by have := hroom.depth; unfold recursionLimit; lia
    refine codeAny_call_function (body := body) hA ho hd (by rw [e4]; exact hco) (by rw [e4]; exact hgen) (by rw [e3]; exact hb) (by rw [e10, e1]; exact hrec) ?_
    have hpn : avs.length = (ln.take xs.length).length := by rw [List.length_take, Nat.min_eq_left i.le, hlen]
    rw [hbind fd avs e2 e8 e9 hpn, e4, e5, e6, e7, e1, e10]
    refine wpAny_pure (wpAny_newFunctionEnv hcell (fun x hx => hln x.1 ?_) (fun h' hns hsb => ?_) hk)
    · exact List.mem_of_mem_take (List.of_mem_zip hx).1
    · have ext : ∀ b o, s.heap.get? b = some o → h'.get? b = some o := fun b o e => hsb.extBut b o (Nat.ne_of_lt (Heap.lt_size e)) (Heap.get?_push_of_some _ e)
      refine ⟨(G.nolimit.keeps R.keep).keeps ext, ?_⟩
      show codeAny _ A (.func body (envF F s.heap.objs.size fa cd F.closure)) _ _
      have R' : Rel C ((s.heap.objs.size, .ns ln vals) :: H) { s with heap := h', toks := s.toks + ((ln.take xs.length).zip avs).length } :=
        R.add ext (Nat.le_refl _) ⟨nd, _, hns, ns_init nd i (ra.fz (fz_of_ext ext)) fun x _ v e => e⟩
      have k' : Kept H s ((s.heap.objs.size, .ns ln vals) :: H) { s with heap := h', toks := s.toks + ((ln.take xs.length).zip avs).length } := kept_add ext (Nat.le_refl _)
      refine codeAny_func (wpAny_mono (h _ _ hD _ R') (fun f s₁ ⟨fl, H₁, ⟨H₂, sub, q⟩, rf, R₁, k₁⟩ => ?_) fun _ _ e => e.elim)
      refine ⟨fl.val, H₂, q, ?_, R₁.sub sub, (k'.trans k₁).sub sub⟩
      cases fl with
      | ret v => obtain ⟨w, rfl, rw⟩ := rf; exact rw
      | next => cases rf; simp [Fl.val, VRel]
      | brk => cases rf; simp [Fl.val, VRel]
      | cont => cases rf; simp [Fl.val, VRel]



theorem call_fnE {fa : Addr} {F : FnA} {D : Value → Prop} {ln : List Str} {xs : List V} {vals : List (Option V)} {body : Expr} {n : Nat}
    (G : C.Ok gl) (hF : ∀ s, Rel C H s → ∃ cd, D cd ∧ FnAt s.heap fa F cd) (hroom : Room A (n + 1)) (hb : F.body = .expr body) (hbind : Binds F (ln.take xs.length))
    (hln : ∀ x ∈ ln, F.scope.names.lookup x = some .local) (nd : ln.Nodup) (hcell : ∀ x ∈ F.scope.names, x.2 ≠ .cell) (i : Init ln xs vals)
    (h : ∀ L cd, D cd → WP C (A.deeper (envF F L fa cd F.closure)) (VRel C.X) (eval body (envF F L fa cd F.closure)) (fun v H₁ => ∃ H₂, Sub H₂ H₁ ∧ Q v H₂) ((L, .ns ln vals) :: H))
    (hco : F.scope.isCoroutine = false := by with_unfolding_all rfl) (hgen : F.scope.isGenerator = false := by with_unfolding_all rfl) (hk : F.scope.kind = .function := by with_unfolding_all rfl) :
    WPC C A (.ref fa) xs Q H := fun fv avs s rf ra R => by
  simp only [VRel] at rf; subst rf
  obtain ⟨cd, hD, hFn⟩ := hF s R
  obtain ⟨o, fd, ho, hd, e1, e2, e3, e4, e5, e6, e7, e8, e9, e10, hrec⟩ := hFn.ex
  have hlen := ra.length
  refine ⟨⟨.frame, fun Q' q => ?_⟩, ?_⟩
  · unfold keeperOf
    refine wpAny_bind (wpAny_load ho ?_)
    rw [hd]
    exact wpAny_pure q
  · have hA : A.depth < recursionLimit := by have := hroom.depth; unfold recursionLimit; lia
    refine wpAny_call (kla_callFunE (body := body) hA ho hd (by rw [e4]; exact hco) (by rw [e4]; exact hgen) (by rw [e3]; exact hb) (by rw [e10, e1]; exact hrec) ?_)
    have hpn : avs.length = (ln.take xs.length).length := by rw [List.length_take, Nat.min_eq_left i.le, hlen]
    rw [hbind fd avs e2 e8 e9 hpn, e4, e5, e6, e7, e1, e10]
    refine wpAny_pure (wpAny_newFunctionEnv hcell (fun x hx => hln x.1 ?_) (fun h' hns hsb => ?_) hk)
    · exact List.mem_of_mem_take (List.of_mem_zip hx).1
    · have ext : ∀ b o, s.heap.get? b = some o → h'.get? b = some o := fun b o e => hsb.extBut b o (Nat.ne_of_lt (Heap.lt_size e)) (Heap.get?_push_of_some _ e)
      refine ⟨(G.nolimit.keeps R.keep).keeps ext, ?_⟩
      show codeAny _ A (.expr body (envF F s.heap.objs.size fa cd F.closure)) _ _
      have R' : Rel C ((s.heap.objs.size, .ns ln vals) :: H) { s with heap := h', toks := s.toks + ((ln.take xs.length).zip avs).length } :=
        R.add ext (Nat.le_refl _) ⟨nd, _, hns, ns_init nd i (ra.fz (fz_of_ext ext)) fun x _ v e => e⟩
      have k' : Kept H s ((s.heap.objs.size, .ns ln vals) :: H) { s with heap := h', toks := s.toks + ((ln.take xs.length).zip avs).length } := kept_add ext (Nat.le_refl _)
      refine kla_codeExpr (wpAny_mono (h _ _ hD _ R') (fun f s₁ ⟨fl, H₁, ⟨H₂, sub, q⟩, rf, R₁, k₁⟩ => ?_) fun _ _ e => e.elim)
      exact ⟨fl, H₂, q, rf, R₁.sub sub, (k'.trans k₁).sub sub⟩

inductive CInit (pn : List Str) (xs : List (Option V)) : List (Str × Addr) → AH → Prop
  | nil : CInit pn xs [] []
  | param {n c v cs Hc} : At pn xs n v → CInit pn xs cs Hc → CInit pn xs ((n, c) :: cs) ((c, .cell (some v)) :: Hc)
  | other {n c cs Hc} : CInit pn xs cs Hc → CInit pn xs ((n, c) :: cs) ((c, .cell none) :: Hc)
theorem At.index {ns os x v} (a : At ns os x v) : ∃ k : Nat, ns[k]? = some x ∧ os[k]? = some (some v) := by
  induction a with
  | head => exact ⟨0, rfl, rfl⟩
  | tail _ ih => obtain ⟨k, h1, h2⟩ := ih; exact ⟨k + 1, by simpa using h1, by simpa using h2⟩
theorem CInit.keys {pn xs cs Hc} (c : CInit pn xs cs Hc) : keys Hc = cs.map (·.2) := by
  induction c <;> simp_all [Mine.keys]
theorem CInit.mem {pn xs cs Hc} (c : CInit pn xs cs Hc) : ∀ p ∈ Hc, ∃ n o, p.2 = .cell o ∧ (n, p.1) ∈ cs ∧ ∀ v, o = some v → At pn xs n v := by
  induction c with
  | nil => intro p hp; cases hp
  | param a _ ih =>
    intro p hp
    rcases List.mem_cons.mp hp with rfl | hp
    · exact ⟨_, _, rfl, .head _, fun v e => by cases e; exact a⟩
    · obtain ⟨n, o, h1, h2, h3⟩ := ih p hp; exact ⟨n, o, h1, .tail _ h2, h3⟩
  | other _ ih =>
    intro p hp
    rcases List.mem_cons.mp hp with rfl | hp
    · exact ⟨_, _, rfl, .head _, fun v e => by cases e⟩
    · obtain ⟨n, o, h1, h2, h3⟩ := ih p hp; exact ⟨n, o, h1, .tail _ h2, h3⟩

theorem Rel.addAll {s : Shared} {h' : Heap} {t : Tok} (R : Rel C H s) (k : ∀ b o, s.heap.get? b = some o → h'.get? b = some o) {N : AH} (hn : (keys N).Nodup) (hge : ∀ p ∈ N, s.heap.objs.size ≤ p.1) (ho : ∀ p ∈ N, ORel C.X h' p.1 p.2) :
    Rel C (N ++ H) { s with heap := h', toks := t } ∧ Kept H s (N ++ H) { s with heap := h', toks := t } := by
  refine ⟨⟨fun b o e => k b o (R.keep b o e), R.gens, R.os, ?_, fun p hp => ?_, fun p hp => ?_, fun b hb => ?_⟩, fun b o n e => ⟨k b o e, fun h => ?_⟩⟩
  · simp only [keys, List.map_append]
    refine List.nodup_append.mpr ⟨hn, R.nd, fun a ha b hb e => ?_⟩
    subst e
    obtain ⟨p, hp, rfl⟩ := List.mem_map.mp ha
    exact absurd (R.lt hb) (Nat.not_lt.mpr (hge p hp))
  · rcases List.mem_append.mp hp with hp | hp
    · exact R.baseNew (hge p hp)
    · exact R.fresh p hp
  · rcases List.mem_append.mp hp with hp | hp
    · exact ho p hp
    · exact (R.objs p hp).move (fz_of_ext k) fun o e => k _ o e
  · obtain ⟨n, o, e⟩ := R.xl b hb
    refine ⟨fun h => ?_, o, k _ _ e⟩
    simp only [keys, List.map_append] at h
    rcases List.mem_append.mp h with h | h
    · obtain ⟨p, hp, rfl⟩ := List.mem_map.mp h
      exact absurd (Heap.lt_size e) (Nat.not_lt.mpr (hge p hp))
    · exact n h
  · simp only [keys, List.map_append] at h
    rcases List.mem_append.mp h with h | h
    · obtain ⟨p, hp, rfl⟩ := List.mem_map.mp h
      exact absurd (Heap.lt_size e) (Nat.not_lt.mpr (hge p hp))
    · exact n h

theorem code_fnC {fa : Addr} {F : FnA} {cd : Value} {pn ln : List Str} {xs : List V} {vals : List (Option V)} {body : List Stmt} {n : Nat}
    (G : C.Ok gl) (hF : ∀ s, Rel C H s → FnAt s.heap fa F cd) (hroom : Room A (n + 1)) (hb : F.body = .stmts body) (hclo : F.closure = []) (hbind : Binds F pn) (hpl : pn.length = xs.length) (ndp : pn.Nodup)
    (hln : ∀ x ∈ ln, F.scope.names.lookup x = some .local) (nd : ln.Nodup)
    (hkind : ∀ x ∈ pn, F.scope.names.lookup x = some .local ∨ F.scope.names.lookup x = some .cell)
    (hcs : ∀ L x, x ∈ pn → F.scope.names.lookup x = some .cell → ((cellsFrom (L + 1) F.scope.names []).lookup x).isSome = true)
    (hnl : ∀ L, ∀ p ∈ cellsFrom (L + 1) F.scope.names [], F.scope.names.lookup p.1 = some .cell ∧ (cellsFrom (L + 1) F.scope.names []).lookup p.1 = some p.2)
    (hv : ln.length = vals.length) (hvals : ∀ (k : Nat) x u, ln[k]? = some x → vals[k]? = some (some u) → At pn (xs.map some) x u)
    (h : ∀ L, ∃ Hc, CInit pn (xs.map some) (cellsFrom (L + 1) F.scope.names []) Hc ∧
      WPS C (A.deeper (envF F L fa cd (cellsFrom (L + 1) F.scope.names []))) (envF F L fa cd (cellsFrom (L + 1) F.scope.names [])) body (fun fl H₁ => ∃ H₂, Sub H₂ H₁ ∧ Q fl.val H₂) (Hc ++ (L, .ns ln vals) :: H))
    (hco : F.scope.isCoroutine = false := by with_unfolding_all rfl) (hgen : F.scope.isGenerator = false := by with_unfolding_all rfl) (hk : F.scope.kind = .function := by with_unfolding_all rfl) :
    ∀ avs s, VsRel C.X s.heap xs avs → Rel C H s → codeAny (model C.prog C.w) A (.call (.ref fa) ⟨avs, []⟩) (fun r s' => match r with | .ok (.ret v) => Post C (VRel C.X) Q H s v s' | .ok _ => False | .error e => NoE e s') s := fun avs s ra R => by
  obtain ⟨o, fd, ho, hd, e1, e2, e3, e4, e5, e6, e7, e8, e9, e10, hrec⟩ := (hF s R).ex
  have hlen := ra.length
  have hA : A.depth < recursionLimit := by have := hroom.depth; unfold recursionLimit; lia
  refine (codeAny_call_function (body := body) hA ho hd (by rw [e4]; exact hco) (by rw [e4]; exact hgen) (by rw [e3]; exact hb) (by rw [e10, e1]; exact hrec) ?_)
  have hpn : avs.length = pn.length := by rw [hpl, hlen]
  rw [hbind fd avs e2 e8 e9 hpn, e4, e5, e6, e7, e1, e10, hclo]
  refine wpAny_pure (wpAny_newFunctionEnv_cells hk (fun x hx => ?_) fun env he s' X => ?_)
  · have hx' := (List.of_mem_zip hx).1
    rcases hkind _ hx' with q | q
    · exact .inl q
    · exact .inr ⟨q, hcs _ _ hx' q⟩
  · have he' : env = envF F s.heap.objs.size fa cd (cellsFrom (s.heap.objs.size + 1) F.scope.names []) := he
    subst he'
    have ext := X.toInCall.keep
    obtain ⟨h', tk, rfl⟩ := X.toInCall.same
    refine ⟨(G.nolimit.keeps R.keep).keeps ext, ?_⟩
    obtain ⟨Hc, ci, hw⟩ := h s.heap.objs.size
    have ndz : ((pn.zip avs).map (·.1)).Nodup := by
      exact ndp.sublist (zip_fst_sub _ _)
    have getz : ∀ x u, At pn (xs.map some) x u → ∃ v, (pn.zip avs).reverse.lookup x = some v ∧ VRel C.X h' u v := fun x u a => by
      obtain ⟨k, h1, h2⟩ := a.index
      rw [List.getElem?_map] at h2
      obtain ⟨u', hu, e⟩ := Option.map_eq_some_iff.mp h2
      cases e
      obtain ⟨v, hv, rv⟩ := ra.get hu
      refine ⟨v, lookup_rev ndz (List.mem_iff_getElem?.mpr ⟨k, ?_⟩), rv.fz (fz_of_ext ext)⟩
      rw [List.getElem?_zip_eq_some]; exact ⟨h1, hv⟩
    have rN := Rel.addAll (t := tk) R ext (N := Hc ++ [(s.heap.objs.size, .ns ln vals)]) ?_ ?_ ?_
    · obtain ⟨R', k'⟩ := rN
      rw [List.append_assoc] at R' k'
      refine codeAny_func (wpAny_mono (hw _ R') (fun f s₁ ⟨fl, H₁, ⟨H₂, sub, q⟩, rf, R₁, k₁⟩ => ?_) fun _ _ e => e.elim)
      refine ⟨fl.val, H₂, q, ?_, R₁.sub sub, (k'.trans k₁).sub sub⟩
      cases fl with
      | ret v => obtain ⟨w, rfl, rw⟩ := rf; exact rw
      | next => cases rf; simp [Fl.val, VRel]
      | brk => cases rf; simp [Fl.val, VRel]
      | cont => cases rf; simp [Fl.val, VRel]
    · simp only [keys, List.map_append, List.map_cons, List.map_nil]
      have hke := ci.keys
      simp only [keys] at hke
      rw [hke]
      refine List.nodup_append.mpr ⟨List.pairwise_map.mpr X.apart, by simp, fun a ha b hb e => ?_⟩
      subst e
      obtain ⟨p, hp, rfl⟩ := List.mem_map.mp ha
      have hgt := X.above p.1 p.2 hp
      rw [List.mem_singleton.mp hb] at hgt
      exact Nat.lt_irrefl _ hgt
    · intro p hp
      rcases List.mem_append.mp hp with hp | hp
      · obtain ⟨n, o, _, hm, _⟩ := ci.mem p hp
        exact Nat.le_of_lt (X.above _ _ hm)
      · rw [List.mem_singleton.mp hp]; exact Nat.le_refl _
    · intro p hp
      rcases List.mem_append.mp hp with hp | hp
      · obtain ⟨n, o, e, hm, ha⟩ := ci.mem p hp
        obtain ⟨hk1, hk2⟩ := hnl _ _ hm
        rw [e]
        have hcell := X.cell n p.1 hk2
        refine ⟨_, hcell, fun u hu => ?_⟩
        obtain ⟨v, hv, rv⟩ := getz n u (ha u hu)
        refine ⟨v, ?_, rv⟩
        rw [bindC_eq _ _ _ _ (by show F.scope.names.lookup n ≠ _; rw [hk1]; decide), hv]; rfl
      · rw [List.mem_singleton.mp hp]
        refine ⟨nd, _, X.toInCall.ns, NsRel.of_get hv.symm fun k x u h1 h2 => ?_⟩
        obtain ⟨v, hv', rv⟩ := getz x u (hvals k x u h1 h2)
        refine ⟨v, ?_, rv⟩
        rw [bindL_eq _ _ _ _ (hln x (List.mem_of_getElem? h1)), hv']; rfl
end
end
noncomputable section
theorem Upd.self {a : Addr} {x : AO} : ∀ {H : AH}, (a, x) ∈ H → Upd a x x H H
  | p :: r, h => by
    rcases List.mem_cons.mp h with rfl | h
    · exact .head
    · exact .tail (Upd.self h)

section
variable {C : Cfg} {gl : List (Str × V)} {A : Around} {env : Env} {c P : Addr} {qual name : Str} {params : Arguments} {body : FuncBody} {scope : Scope} {clos : List (Str × Addr)} {pos : Pos} {fl : Nat} {H H' : AH} {Q : V → AH → Prop}

theorem CodeF.of_tab {h : Heap} {c P : Addr} {ps : Array Value} {q : Str} (t : h.TableAt c P ps) (r : h.CodeRec (.ref c) q) : CodeF h (.ref c) q := by
  obtain ⟨⟨o, vs, e1, e2, e3, _⟩, _⟩ := t
  obtain ⟨c', o', vs', t', ec, e1', e3', e4⟩ := r
  cases ec
  rw [e1] at e1'; cases e1'
  rw [e3] at e3'; cases e3'
  exact ⟨c, o, vs, t', rfl, e1, e2, e3, e4⟩

theorem codeAmong_app {p : Pos} {a b : Int} {c c' : Value} (l : List Value) (h : TriplesOk l) : codeAmong p (l ++ [rawInt a, rawInt b, c]) = some c' → codeAmong p l = some c' ∨ c' = c := by
  fun_induction TriplesOk l with
  | case1 =>
    intro e
    right
    simp only [List.nil_append, rawInt, codeAmong] at e
    split at e
    · cases e; rfl
    · cases e
  | case2 a' t b' u x rest ih =>
    intro e
    simp only [List.cons_append, codeAmong] at e ⊢
    split at e
    · rename_i hc; rw [if_pos hc]; exact .inl e
    · rename_i hc; rw [if_neg hc]; exact ih h e
  | case3 l h1 h2 => exact h.elim

theorem clos_step {M : Model} {E : Value → Shared → Prop} {s : Shared} {n : Bool} {l : List Value} {k : Value → Sem Value} {Q : Value → Shared → Prop} (h : ∀ v h₁, (∀ b o, s.heap.get? b = some o → h₁.get? b = some o) → s.heap.objs.size ≤ h₁.objs.size → wpAny M A (k v) Q E { s with heap := h₁ }) :
    wpAny M A (if n = true then pure Value.none >>= k else newTextTuple l >>= k) Q E s := by
  cases n with
  | true => exact wpAny_bind (wpAny_pure (h _ s.heap (fun _ _ e => e) (Nat.le_refl _)))
  | false => exact wpAny_bind (wpAny_newTextTuple (h _ _ (fun _ _ e => Heap.get?_push_of_some _ e) (by rw [Heap.size_push]; exact Nat.le_succ _)))
theorem doc_step {M : Model} {E : Value → Shared → Prop} {s : Shared} {k : Value → Sem Value} {Q : Value → Shared → Prop} (h : ∀ v t, wpAny M A (k v) Q E { s with toks := t }) :
    wpAny M A (match body with
      | .stmts b => (match docOf b with | some s => mkText s | none => pure .none) >>= k
      | .expr _ => pure .none >>= k) Q E s := by
  cases body with
  | expr e => exact wpAny_bind (wpAny_pure (h _ _))
  | stmts b =>
    show wpAny M A ((match docOf b with | some s => mkText s | none => pure .none) >>= k) Q E s
    cases docOf b with
    | none => exact wpAny_bind (wpAny_pure (h _ _))
    | some t => exact wpAny_bind (wpAny_mkText (h _ _))
theorem code_step {s : Shared} {ps : Array Value} {nm : Str} {f0 : Nat} {Q' : Value → Shared → Prop} (hcode : env.code = .ref c) (CH : CodeHd s.heap c P) (hps : s.heap.get? P = some (tabObj ps)) (htr : TriplesOk ps.toList)
    (hall : ∀ pos c, codeAmong pos ps.toList = some c → CodeF s.heap c qual) (hn : ∀ a o, s.heap.get? a = some o → Frozen C.X a o → a ≠ P)
    (h : ∀ cv h₂ tk, Heap.ExtBut P s.heap h₂ → s.heap.objs.size ≤ h₂.objs.size → ORel C.X h₂ P (.tab qual) → CodeF h₂ cv qual → Q' cv { s with heap := h₂, toks := tk }) :
    wpAny (model C.prog C.w) A (functionCode env pos f0 nm qual params scope body) Q' NoE s := by
  cases hca : codeAmong pos ps.toList with
  | some cv => exact wpAny_functionCode_hit hcode (CH.code hps htr) hca (h cv s.heap s.toks (fun _ _ _ e => e) (Nat.le_refl _) ⟨ps, hps, htr, hall⟩ (hall _ _ hca))
  | none =>
    refine wpAny_functionCodeX hcode (CH.code hps htr) (CH.tab hps) hca fun c' h' tk hx hge hlt _ hrec htb h4 => h4.elim fun P' h5 => ?_
    have hcf := CodeF.of_tab h5.2.2 hrec
    refine h _ h' tk hx (Nat.le_trans hge (Nat.le_of_lt hlt)) ⟨_, htb.2, by simpa using TriplesOk_snoc pos.line pos.col (.ref c') _ htr, fun pos' c'' hc'' => ?_⟩ hcf
    have hc3 : codeAmong pos' (ps.toList ++ [rawInt pos.line, rawInt pos.col, .ref c']) = some c'' := by simpa using hc''
    exact (codeAmong_app _ htr hc3).elim (fun h1 => (hall _ _ h1).fz (X := C.X) fun a o e f => hx a o (hn a o e f) e) fun e => e ▸ hcf
theorem mk_fn (G : C.Ok gl) (hcode : env.code = .ref c) (hC : CodeHd C.B c P) (hglob : env.globals = mainGlobals) (hP : (P, AO.tab qual) ∈ H) (hcl : closureFor scope env = pure clos)
    (q : ∀ f, Q (.ref f) ((f, .fn ⟨qual, params, body, scope, clos⟩) :: H)) : WP C A (VRel C.X) (makeFunction name qual params body scope env [] [] [] pos fl) Q H := fun s R => by
  obtain ⟨ps, hps, htr, hall⟩ := R.objs _ hP
  have hPk : P ∈ keys H := List.mem_map_of_mem (f := Prod.fst) hP
  have ne : ∀ {a o}, C.B.get? a = some o → a ≠ P := fun e q => by rw [q, R.fresh _ hP] at e; cases e
  obtain ⟨bm, ob, b1, b2, b3, b4, b5, b6⟩ := G.bmain
  rw [makeFunction_eq]
  simp only [List.zip_nil_right, List.filterMap_nil, List.isEmpty_nil, if_true, pure_bind]
  unfold makeTail
  rw [hcl, hglob]
  refine wpAny_bind (wpAny_pure (clos_step fun cl h₁ k₁ z₁ => wpAny_bind (code_step hcode ((hC.keeps R.keep).keeps k₁) (k₁ _ _ hps) htr (fun p c hc => (hall p c hc).fz (fz_of_ext (X := C.X) k₁))
    (fun a o e f q => (R.toks s.toks |>.ext k₁).notin e f (q ▸ hPk)) fun cv h₂ tk hx z₂ ht hcv => ?_)))
  have hk : ∀ b o, b ≠ P → s.heap.get? b = some o → h₂.get? b = some o := fun b o n e => hx b o n (k₁ b o e)
  have hg' : h₂.Ns mainGlobals C.mg := ((G.g.keeps R.keep).keeps k₁).extBut hx (let ⟨_, _, _, e, _⟩ := G.g; ne e)
  refine wpAny_bind (wpAny_builtinsFor hg' b1 b2 (hk _ _ (ne b3) (R.keep _ _ b3)) b4 b5 b6 (wpAny_bind (wpAny_nsGet hg' (doc_step fun dv t2 => wpAny_newObj_type ?_ (by size_fits)))))
  have R₂ := R.upd (h' := h₂) (t := t2) (Upd.self hP) hk ht
  generalize hfd : FuncData.mk .. = fd
  have ext : ∀ b o, h₂.get? b = some o → (h₂.push { cls := .type "function", data := .func fd }).get? b = some o := fun b o e => Heap.get?_push_of_some _ e
  refine ⟨.ref h₂.objs.size, (h₂.objs.size, .fn ⟨qual, params, body, scope, clos⟩) :: H, q _, rfl, R₂.1.add (s := { s with heap := h₂, toks := t2 }) ext (Nat.le_refl _) ?_, R₂.2.trans (kept_add (s := { s with heap := h₂, toks := t2 }) ext (Nat.le_refl _))⟩
  subst hfd
  exact ⟨_, _, Heap.get?_push_size _ rfl, rfl, rfl, rfl, rfl, rfl, rfl, rfl, rfl, rfl, rfl, rfl, hcv.fz (fz_of_ext (X := C.X) ext), rfl, rfl⟩

theorem fnAt_of_fn {f : Addr} {F : FnA} (h : (f, AO.fn F) ∈ H) : ∀ s, Rel C H s → ∃ cd, True ∧ FnAt s.heap f F cd := fun s R =>
  (R.objs _ h).elim fun o p => p.elim fun fd q => ⟨fd.code, trivial, ⟨o, fd, ⟨q.get, q.dat, q.r1, q.r2, q.r3, q.r4, q.r5, q.r6, q.r7, q.r8, q.r9, rfl, q.r1 ▸ q.code.rec⟩⟩⟩
theorem fnAt_of_base {f : Addr} {F : FnA} {cd : Value} (h : FnAt C.B f F cd) : ∀ s, Rel C H s → ∃ cd', cd' = cd ∧ FnAt s.heap f F cd' := fun s R => ⟨cd, rfl, h.keeps R.keep⟩

theorem wp_Lambda {e : Expr} (G : C.Ok gl) (hcode : env.code = .ref c) (hC : CodeHd C.B c P) (hglob : env.globals = mainGlobals) (hP : (P, AO.tab qual) ∈ H) (hcl : closureFor scope env = pure clos)
    (q : ∀ f, Q (.ref f) ((f, .fn ⟨qual, params, .expr e, scope, clos⟩) :: H)) (hq : env.qual ++ "<lambda>" = qual)
    (hd : defaultsOf params env = ([], []) := by with_unfolding_all rfl) : WP C A (VRel C.X) (eval (.Lambda params e scope pos) env) Q H := fun s R => by
  have h1 : eval (.Lambda params e scope pos) env = (do
    let (d, kd) := defaultsOf params env
    let dv ← evalAll d
    let kdv ← holding dv (evalAllOpt kd)
    makeFunction "<lambda>" (env.qual ++ "<lambda>") params (.expr e) scope env dv kdv [] pos pos.line) := rfl
  rw [h1, hd]
  refine wpAny_bind (wpAny_pure (wpAny_bind (wpAny_holding (wpAny_pure ?_))))
  rw [hq]
  exact mk_fn G hcode hC hglob hP hcl q s R

variable {QF : Fl → AH → Prop}
theorem wp1_Def {b : List Stmt} (G : C.Ok gl) (hcode : env.code = .ref c) (hC : CodeHd C.B c P) (hglob : env.globals = mainGlobals) (hP : (P, AO.tab qual) ∈ H) (hcl : closureFor scope env = pure clos)
    (h : ∀ f, Op1 C A URel (storeName env name) (.ref f) (fun _ H₂ => QF .next H₂) ((f, .fn ⟨qual, params, .stmts b, scope, clos⟩) :: H)) (hq : qualnameIn env name name = qual)
    (hd : defaultsOf params env = ([], []) := by with_unfolding_all rfl) (ha : annTrees params none env = [] := by with_unfolding_all rfl) : WP1 C A env (.FunctionDef name params b [] none [] scope none name pos) QF H := fun s R => by
  rw [exec_def, hd, ha, hq]
  refine wpAny_bind (wpAny_standAt (wpAny_bind (wpAny_holding ?_)))
  refine wpAny_bind (wpAny_pure (wpAny_bind (wpAny_holding (wpAny_pure (wpAny_holding (wpAny_bind (wpAny_pure ?_)))))))
  refine wpAny_mono (mk_fn (Q := fun v H₁ => Op1 C A URel (storeName env name) v (fun _ H₂ => QF .next H₂) H₁) G hcode hC hglob hP hcl h s R) (fun w s₁ p47 => Post.el p47 fun v H₁ q rw R₁ k => ?_) fun _ _ e => e
  exact wpAny_bind (wpAny_standAt (wpAny_bind (wpAny_bindName (wpAny_mono (q w s₁ rw R₁) (fun _ _ p48 => Post.el p48 fun _ H₂ q₂ _ R₂ k₂ => wpAny_pure ⟨.next, H₂, q₂, rfl, R₂, k.trans k₂⟩) fun _ _ e => e))))
end
end
noncomputable section
structure Src (C : Cfg) (A : Around) (target : Expr) (it : Value) (fp wr : List Addr) (J : Nat → Heap → Prop) (Item : Nat → AH → Option V → Prop) : Prop where
  sub : ∀ b ∈ wr, b ∈ fp
  nofz : ∀ i h, J i h → ∀ b ∈ wr, ∀ o, h.get? b = some o → ¬ Frozen C.X b o
  live : ∀ i h, J i h → ∀ b ∈ fp, ∃ o, h.get? b = some o
  frame : ∀ i h h', J i h → Fz C.X h h' → (∀ b ∈ fp, ∀ o, h.get? b = some o → h'.get? b = some o) → J i h'
  self : ∀ i s, J i s.heap → wpAny (model C.prog C.w) A (pyIter it) (fun r s' => r = it ∧ s' = s) NoE s
  item : ∀ i H s x, J i s.heap → Rel C H s → (∀ b ∈ fp, b ∉ keys H) → Item i H (some x) →
    wpAny (model C.prog C.w) A (pyNext it) (fun r s' => ∃ v, r = some v ∧ wpAny (model C.prog C.w) A (letOwnedTupleGo target it v) (fun _ s'' =>
      ∃ h' tk, s'' = { s with heap := h', toks := tk } ∧ VRel C.X h' x v ∧ J (i + 1) h' ∧ ∀ b o, b ∉ wr → s.heap.get? b = some o → h'.get? b = some o) NoE s') NoE s
  done : ∀ i H s, J i s.heap → Rel C H s → (∀ b ∈ fp, b ∉ keys H) → Item i H none →
    wpAny (model C.prog C.w) A (pyNext it) (fun r s' => r = none ∧ ∃ h' tk, s' = { s with heap := h', toks := tk } ∧ ∀ b o, b ∉ wr → s.heap.get? b = some o → h'.get? b = some o) NoE s

theorem Rel.but {C : Cfg} {H : AH} {s : Shared} (R : Rel C H s) {wr : List Addr} (hk : ∀ b ∈ wr, b ∉ keys H) (hB : ∀ b ∈ wr, C.B.get? b = none) (hfz : ∀ b ∈ wr, ∀ o, s.heap.get? b = some o → ¬ Frozen C.X b o) {h' : Heap} {t : Tok}
    (hl : ∀ b ∈ wr, ∃ o, h'.get? b = some o) (k : ∀ b o, b ∉ wr → s.heap.get? b = some o → h'.get? b = some o) : Rel C H { s with heap := h', toks := t } where
  keep := fun b o e => k b o (fun q => by rw [hB b q] at e; cases e) (R.keep b o e)
  gens := R.gens
  os := R.os
  nd := R.nd
  fresh := R.fresh
  objs := fun p hp => (R.objs p hp).move (fun a o e f => k a o (fun q => hfz a q o e f) e) fun o e => k _ o (fun q => hk _ q (List.mem_map_of_mem hp)) e
  xl := fun a ha => by
    obtain ⟨n, o, e⟩ := R.xl a ha
    by_cases q : a ∈ wr
    · exact ⟨n, hl a q⟩
    · exact ⟨n, o, k a o q e⟩

noncomputable def Cfg.hide (C : Cfg) (l : List Addr) : Cfg := { C with X := l ++ C.X }

theorem unhide_t {X l : List Addr} {h : Heap} : TChg (l ++ X) X h h := fun a items n t => ⟨fun q => n (List.mem_append_right _ q), t⟩
theorem CodeF.ext {h h' : Heap} (k : ∀ b o, h.get? b = some o → h'.get? b = some o) {c : Value} {q : Str} (r : CodeF h c q) : CodeF h' c q := r.fz (X := []) (fz_of_ext k)
theorem Rel.unhide {C : Cfg} {l : List Addr} {H : AH} {s : Shared} (R : Rel (C.hide l) H s) (hl : ∀ p ∈ H, p.1 ∉ l) : Rel C H s where
  keep := R.keep
  gens := R.gens
  os := R.os
  nd := R.nd
  fresh := R.fresh
  objs := fun p hp => (R.objs p hp).chg unhide_t (fun n q => by
    rcases List.mem_append.mp q with q | q
    · exact hl p hp q
    · exact n q) (fun _ _ r => r) fun _ e => e
  xl := fun a ha => R.xl a (List.mem_append_right _ ha)
theorem Rel.butUnhide {C : Cfg} {l wr : List Addr} {H : AH} {s : Shared} (R : Rel (C.hide l) H s) (hk : ∀ b ∈ wr, b ∉ keys H) (hB : ∀ b ∈ wr, C.B.get? b = none) (hX : ∀ b ∈ wr, b ∉ C.X) (hl : ∀ p ∈ H, p.1 ∉ l)
    (hfz : ∀ b ∈ wr, ∀ o, s.heap.get? b = some o → ¬ Frozen (l ++ C.X) b o) {h' : Heap} {t : Tok} (k : ∀ b o, b ∉ wr → s.heap.get? b = some o → h'.get? b = some o) : Rel C H { s with heap := h', toks := t } where
  keep := fun b o e => k b o (fun q => by rw [hB b q] at e; cases e) (R.keep b o e)
  gens := R.gens
  os := R.os
  nd := R.nd
  fresh := R.fresh
  objs := fun p hp => (R.objs p hp).chg
    (fun a items n t => ⟨fun q => n (List.mem_append_right _ q), let ⟨o, e, c, m, d⟩ := t; ⟨o, k a o (fun q => hfz a q o e (.inl ⟨n, c, _, _, d⟩)) e, c, m, d⟩⟩)
    (fun n q => by
      rcases List.mem_append.mp q with q | q
      · exact hl p hp q
      · exact n q) (fun c q ⟨c', o, vs, t, a, b, d, e⟩ => ⟨c', o, vs, t, a, k c' o (fun q => hfz c' q o b (.inr ⟨d, _, e.1⟩)) b, d, e⟩) fun o e => k _ o (fun q => hk _ q (List.mem_map_of_mem hp)) e
  xl := fun a ha => by
    obtain ⟨n, o, e⟩ := R.xl a (List.mem_append_right _ ha)
    exact ⟨n, o, k a o (fun q => hX a q ha) e⟩
theorem Rel.hide {C : Cfg} {l : List Addr} {H : AH} {s : Shared} (R : Rel C H s) {h' : Heap} {t : Tok} (k : ∀ b o, s.heap.get? b = some o → h'.get? b = some o) (hl : ∀ a ∈ l, s.heap.objs.size ≤ a ∧ ∃ o, h'.get? a = some o) :
    Rel (C.hide l) H { s with heap := h', toks := t } := by
  have R' := R.ext (t := t) k
  refine ⟨R'.keep, R'.gens, R'.os, R'.nd, R'.fresh, fun p hp => ?_, fun a ha => ?_⟩
  · refine (R.objs p hp).chg (fun a items n t => ⟨fun q => ?_, let ⟨o, e, r⟩ := t; ⟨o, k _ _ e, r⟩⟩) (fun n q => n (List.mem_append_right _ q)) (fun _ _ r => r.ext k) (k _)
    rcases List.mem_append.mp q with q | q
    · obtain ⟨o, e, _⟩ := t; exact absurd (Heap.lt_size e) (Nat.not_lt.mpr (hl a q).1)
    · exact n q
  · rcases List.mem_append.mp ha with q | q
    · exact ⟨fun h => absurd (R.lt h) (Nat.not_lt.mpr (hl a q).1), (hl a q).2⟩
    · exact R'.xl a q

section
variable {C : Cfg} {gl : List (Str × V)} {A : Around} {env : Env} {target : Expr} {it : Value} {fp wr : List Addr} {J : Nat → Heap → Prop} {Item : Nat → AH → Option V → Prop} {body orelse : List Stmt} {pos : Pos} {H H' : AH} {Q : V → AH → Prop} {QF : Fl → AH → Prop}

noncomputable def TurnEnd (P : AH → Prop) (Q : Fl → AH → Prop) : Fl → AH → Prop
  | .next, H => P H
  | .cont, H => P H
  | .brk, H => Q .next H
  | .ret v, H => Q (.ret v) H
noncomputable def ForTurns (C C' : Cfg) (A : Around) (env : Env) (target : Expr) (body orelse : List Stmt) (Q : Fl → AH → Prop) (Item : Nat → AH → Option V → Prop) (H : AH) : Prop :=
  ∃ (I : Nat → AH → Prop) (N : Nat), I 0 H ∧ ∀ i H₁, I i H₁ → (∃ x, i < N ∧ Item i H₁ (some x) ∧ WPA C' A env target x (fun _ H₂ => WPS C' A env body (TurnEnd (I (i + 1)) Q) H₂) H₁) ∨ (Item i H₁ none ∧ WPS C A env orelse Q H₁)
noncomputable def KB (fp : List Addr) (H : AH) (s : Shared) (H' : AH) (s' : Shared) : Prop := ∀ b o, b ∉ fp → b ∉ keys H → s.heap.get? b = some o → s'.heap.get? b = some o ∧ b ∉ keys H'

inductive LSt (C' : Cfg) (fp wr : List Addr) (J : Nat → Heap → Prop) (I : Nat → AH → Prop) (N : Nat) (H : AH) (s : Shared) (n : Nat) (s' : Shared) : Prop
  | mk (i : Nat) (H₁ : AH) (hn : n = N + 1 - i) (hi : i ≤ N) (hI : I i H₁) (R : Rel C' H₁ s') (hJ : J i s'.heap) (hf : ∀ b ∈ fp, b ∉ keys H₁) (kb : KB wr H s H₁ s')
theorem KB.kept {wr : List Addr} {H H₁ H₂ : AH} {s s₁ s₂ : Shared} (kb : KB wr H s H₁ s₁) (k : Kept H₁ s₁ H₂ s₂) : KB wr H s H₂ s₂ := fun b o nf n e => k b o (kb b o nf n e).2 (kb b o nf n e).1
theorem KB.heap {wr : List Addr} {H H₁ : AH} {s s₁ : Shared} {h' : Heap} {t : Tok} (kb : KB wr H s H₁ s₁) (k : ∀ b o, b ∉ wr → s₁.heap.get? b = some o → h'.get? b = some o) : KB wr H s H₁ { s₁ with heap := h', toks := t } := fun b o nf n e => ⟨k b o nf (kb b o nf n e).1, (kb b o nf n e).2⟩
theorem TurnEnd.cases {a b : Prop} {d : Value → Prop} {X : List Addr} {h : Heap} {fl : Fl} {f : Flow} {I : AH → Prop} {Q : Fl → AH → Prop} {H : AH} (q : TurnEnd I Q fl H) (rf : FRel X h fl f) (h1 : I H → a) (h2 : Q .next H → b)
    (h3 : ∀ u w, Q (.ret u) H → VRel X h u w → d w) : match (generalizing := false) f with
      | .next | .cont => a
      | .brk => b
      | .ret v => d v := by
  cases fl with
  | next => cases rf; exact h1 q
  | cont => cases rf; exact h1 q
  | brk => cases rf; exact h2 q
  | ret u => exact E12 rf fun w e rw => e ▸ h3 u w q rw
theorem Src.turn {s s₁ : Shared} {l : List Addr} {I : Nat → AH → Prop} {N n : Nat} {P : Option Value → Shared → Prop} {X : Value → Shared → Prop} {Y : Shared → Prop} {E : Value → Shared → Prop} {W : Nat → AH → V → Prop} {Z : Nat → AH → Prop}
    (S : Src (C.hide l) A target it fp wr J Item) (hB : ∀ b ∈ wr, C.B.get? b = none) (hX : ∀ b ∈ wr, b ∉ C.X) (hl : ∀ b ∈ l, b ∈ wr) (L : LSt (C.hide l) fp wr J I N H s n s₁)
    (T : ∀ i H₁, i ≤ N → I i H₁ → (∃ x, i < N ∧ Item i H₁ (some x) ∧ W i H₁ x) ∨ (Item i H₁ none ∧ Z i H₁))
    (hx : ∀ i H₁ x v s₂, W i H₁ x → VRel (C.hide l).X s₂.heap x v → Rel (C.hide l) H₁ s₂ → (∀ H₃ s₅, Rel (C.hide l) H₃ s₅ → Kept H₁ s₂ H₃ s₅ → (I (i + 1) H₃ → ∃ m, m < n ∧ LSt (C.hide l) fp wr J I N H s m s₅) ∧ Rel C H₃ s₅ ∧ KB wr H s H₃ s₅) → X v s₂)
    (hy : ∀ i H₁ s₂, Z i H₁ → Rel C H₁ s₂ → KB wr H s H₁ s₂ → Y s₂) (pn : ∀ s, Y s → P none s) (ps : ∀ v s', wpAny (model C.prog C.w) A (letOwnedTupleGo target it v) (fun _ s => X v s) NoE s' → P (some v) s') :
    wpAny (model C.prog C.w) A (pyNext it) P E s₁ := by
  cases L with | mk i H₁ hn hi hI R₁ hJ₁ hf₁ kb =>
  refine (T i H₁ hi hI).elim (fun h => E13 h fun x hlt hit hw => ?_) fun h => ?_
  · refine wpAny_mono (S.item i H₁ s₁ x hJ₁ R₁ hf₁ hit) (fun r s₂ h₂ => E12 h₂ fun v e h₂ => e ▸ ps v s₂ (wpAny_mono h₂ (fun _ s₃ h₃ => E24 h₃ fun h' tk e rv hJ' kx => e ▸ ?_) fun _ _ e => e)) fun _ _ e => e.elim
    have R₂ := R₁.but (t := tk) (fun b hb => hf₁ b (S.sub b hb)) hB (fun b hb => S.nofz i _ hJ₁ b hb) (fun b hb => S.live _ _ hJ' b (S.sub b hb)) kx
    refine hx i H₁ x v _ hw rv R₂ fun H₃ s₅ R₄ kk => ?_
    have hf₅ : ∀ b ∈ fp, b ∉ keys H₃ := fun b hb => (S.live _ _ hJ' b hb).elim fun o e => (kk b o (hf₁ b hb) e).2
    have kb₅ := (kb.heap (t := tk) kx).kept kk
    exact ⟨fun q₃ => ⟨N + 1 - (i + 1), hn ▸ Nat.sub_lt_sub_left (Nat.lt_succ_of_le hi) (Nat.lt_succ_self i), i + 1, H₃, rfl, hlt, q₃, R₄, S.frame _ _ _ hJ' (kk.fz R₂) (fun b hb o e => (kk b o (hf₁ b hb) e).1), hf₅, kb₅⟩,
      R₄.unhide fun p hp q => hf₅ _ (S.sub _ (hl _ q)) (List.mem_map_of_mem hp), kb₅⟩
  · refine wpAny_mono (S.done i H₁ s₁ hJ₁ R₁ hf₁ h.1) (fun r s₂ h₂ => h₂.1 ▸ pn s₂ (E22 h₂.2 fun h' tk e k => e ▸ hy i H₁ _ h.2 ?_ (kb.heap k))) fun _ _ e => e.elim
    exact R₁.butUnhide (fun b hb => hf₁ b (S.sub b hb)) hB hX (fun p hp q => hf₁ _ (S.sub _ (hl _ q)) (List.mem_map_of_mem hp)) (fun b hb => S.nofz i _ hJ₁ b hb) k
theorem forLoop_gen {s : Shared} {l : List Addr} (S : Src (C.hide l) A target it fp wr J Item) (R : Rel (C.hide l) H s) (hJ : J 0 s.heap) (hfp : ∀ b ∈ fp, b ∉ keys H) (hB : ∀ b ∈ wr, C.B.get? b = none) (hX : ∀ b ∈ wr, b ∉ C.X) (hl : ∀ b ∈ l, b ∈ wr)
    (T : ForTurns C (C.hide l) A env target body orelse QF Item H) :
    codeAny (model C.prog C.w) A (.forLoop target it body orelse env) (fun r s' => match r with
      | .ok f => ∃ fl H', QF fl H' ∧ FRel C.X s'.heap fl f ∧ Rel C H' s' ∧ KB wr H s H' s'
      | .error e => False) s := by
  refine Exists.elim T fun I T => Exists.elim T fun N T => codeAny_forLoop_any (LSt (C.hide l) fp wr J I N H s) (fun n s₁ L => S.turn hB hX hl L (fun i H₁ _ => T.2 i H₁) (fun i H₁ x v s₂ hw rv R₂ go => ?_)
    (fun i H₁ s₂ hw R₂ kb => wpAny_mono (hw _ R₂) (fun f s₅ p53 => Post.el p53 fun fl H₃ q₃ rf R₄ k₄ => ⟨fl, H₃, q₃, rf, R₄, kb.kept k₄⟩) fun _ _ e => e.elim) (fun _ h => h) fun _ _ h => wpAny_mono h (fun _ _ h => h) fun _ _ e => e.elim) (N + 1)
    ⟨0, H, rfl, Nat.zero_le _, T.1, R, hJ, hfp, fun b o _ n e => ⟨e, n⟩⟩
  refine wpAny_mono (hw v _ rv R₂) (fun _ s₄ p51 => Post.el p51 fun _ H₂ q _ R₃ k₃ => wpAny_mono (q s₄ R₃) (fun f s₅ p52 => Post.el p52 fun fl H₃ q₃ rf R₄ k₄ => ?_) fun _ _ e => e.elim) fun _ _ e => e.elim
  have g := go H₃ s₅ R₄ (k₃.trans k₄)
  exact TurnEnd.cases q₃ rf (fun q => g.1 q) (fun q => ⟨.next, H₃, q, rfl, g.2⟩) fun u w q rw => ⟨.ret u, H₃, q, ⟨w, rfl, rw.chg unhide_t⟩, g.2⟩

inductive ItPost (C : Cfg) (A : Around) (target : Expr) (Q : Cfg → (Nat → AH → Option V → Prop) → AH → Prop) (H : AH) (s : Shared) (it : Value) (s' : Shared) : Prop
  | mk (l fp wr : List Addr) (J : Nat → Heap → Prop) (Item : Nat → AH → Option V → Prop) (H' : AH) (q : Q (C.hide l) Item H') (S : Src (C.hide l) A target it fp wr J Item) (hJ : J 0 s'.heap) (hk : ∀ b ∈ fp, b ∉ keys H')
      (hn : ∀ b ∈ wr, C.B.get? b = none ∧ (b ∈ keys H ∨ s.heap.get? b = none)) (hl : ∀ b ∈ l, b ∈ wr) (R : Rel (C.hide l) H' s') (k : Kept H s H' s')
theorem ItPost.elim {Q : Cfg → (Nat → AH → Option V → Prop) → AH → Prop} {s s' : Shared} {P : Prop} (h : ItPost C A target Q H s it s') (R : Rel C H s)
    (k : ∀ l fp wr J Item H', Q (C.hide l) Item H' → Src (C.hide l) A target it fp wr J Item → J 0 s'.heap → (∀ b ∈ fp, b ∉ keys H') → (∀ b ∈ wr, C.B.get? b = none) → (∀ b ∈ wr, b ∉ C.X) → (∀ b ∈ l, b ∈ wr) →
      Rel (C.hide l) H' s' → Kept H s H' s' → (∀ H₁ s₁ H₂ s₂, Kept H s H₁ s₁ → KB wr H₁ s₁ H₂ s₂ → Kept H s H₂ s₂) → P) : P := by
  cases h with | mk l fp wr J Item H' q S hJ hk hn hl R' k' =>
  refine k l fp wr J Item H' q S hJ hk (fun b hb => (hn b hb).1) (fun b hb q => ?_) hl R' k' fun H₁ s₁ H₂ s₂ k₁ kb b o n e => kb b o (fun q => ?_) (k₁ b o n e).2 (k₁ b o n e).1
  · exact (R.xl b q).2.elim fun o e => (hn b hb).2.elim (R.xl b q).1 fun h => by rw [h] at e; cases e
  · exact (hn b q).2.elim n fun h => by rw [h] at e; cases e
noncomputable def WPI (C : Cfg) (A : Around) (env : Env) (iter target : Expr) (Q : Cfg → (Nat → AH → Option V → Prop) → AH → Prop) (H : AH) : Prop :=
  ∀ s, Rel C H s → wpAny (model C.prog C.w) A (eval iter env) (fun v s₁ => wpAny (model C.prog C.w) A (pyIter v) (ItPost C A target Q H s) NoE s₁) NoE s

theorem WPI.mono {iter : Expr} {Q Q' : Cfg → (Nat → AH → Option V → Prop) → AH → Prop} (h : WPI C A env iter target Q H) (k : ∀ C' Item H', Q C' Item H' → Q' C' Item H') : WPI C A env iter target Q' H := fun s R =>
  wpAny_mono (h s R) (fun v s₁ h₁ => wpAny_mono h₁ (fun it s₂ p => by cases p with | mk l fp wr J Item H' q S hJ hk hn hl R k' => exact ⟨l, fp, wr, J, Item, H', k _ _ _ q, S, hJ, hk, hn, hl, R, k'⟩) fun _ _ e => e) fun _ _ e => e


theorem wp1_For {iter : Expr} (h : WPI C A env iter target (fun C' Item H₁ => ForTurns C C' A env target body orelse QF Item H₁) H) (hs : ∀ x, foldedSetIterable iter env x = pure x := by intro _; with_unfolding_all rfl) :
    WP1 C A env (.For target iter body orelse pos) QF H := fun s R => by
  refine wpAny_For (hs := hs) (wpAny_mono (h s R) (fun v s₁ h₁ => wpAny_mono h₁ (fun it s₂ h₂ => ItPost.elim h₂ R fun l fp wr J Item H₂ T S hJ hk hB hX hl R₂ k₂ kk => ?_) fun _ _ e => e.elim) fun _ _ e => e.elim)
  refine codeAny_mono (forLoop_gen S R₂ hJ hk hB hX hl T) fun r s₃ h₃ => ?_
  cases r with
  | error e => exact h₃.elim
  | ok f => exact E24 h₃ fun fl H₃ q rf R₃ kb => ⟨fl, H₃, q, rf, R₃, kk _ _ _ _ k₂ kb⟩

noncomputable def PI (C : Cfg) (A : Around) (target : Expr) (x : V) (Q : Cfg → (Nat → AH → Option V → Prop) → AH → Prop) (H : AH) : Prop :=
  ∀ v s, VRel C.X s.heap x v → Rel C H s → wpAny (model C.prog C.w) A (pyIter v) (ItPost C A target Q H s) NoE s
theorem ItPost.then {QI : Cfg → (Nat → AH → Option V → Prop) → AH → Prop} {s s₁ s₂ : Shared} {H₁ : AH} (k : Kept H s H₁ s₁) (h : ItPost C A target QI H₁ s₁ it s₂) : ItPost C A target QI H s it s₂ := by
  obtain ⟨l, fp, wr, J, Item, H', a1, a2, a3, a4, a5, a6, a7, a8⟩ := h
  refine ⟨l, fp, wr, J, Item, H', a1, a2, a3, a4, fun b hb => ⟨(a5 b hb).1, ?_⟩, a6, a7, k.trans a8⟩
  by_cases n : b ∈ keys H
  · exact .inl n
  · cases e : s.heap.get? b with
    | none => exact .inr rfl
    | some o =>
      obtain ⟨e', n'⟩ := k b o n e
      rcases (a5 b hb).2 with h | h
      · exact absurd h n'
      · rw [h] at e'; cases e'

theorem wpi_value {iter : Expr} {QI : Cfg → (Nat → AH → Option V → Prop) → AH → Prop} (h : WP C A (VRel C.X) (eval iter env) (fun x H₁ => PI C A target x QI H₁) H) : WPI C A env iter target QI H := fun s R =>
  wpAny_mono (h s R) (fun v s₁ p54 => Post.el p54 fun x H₁ q rv R₁ k => wpAny_mono (q v s₁ rv R₁) (fun _ _ p => p.then k) fun _ _ e => e) fun _ _ e => e
noncomputable def CI (C : Cfg) (A : Around) (target : Expr) (f : V) (args : List V) (Q : Cfg → (Nat → AH → Option V → Prop) → AH → Prop) (H : AH) : Prop :=
  ∀ fv avs s, VRel C.X s.heap f fv → VsRel C.X s.heap args avs → Rel C H s → KeepsOk (model C.prog C.w) A fv s ∧ wpAny (model C.prog C.w) A (call fv avs) (fun v s₁ => wpAny (model C.prog C.w) A (pyIter v) (ItPost C A target Q H s) NoE s₁) NoE s
theorem wpi_Call {x : Str} {np : Pos} {es : List Expr} {QI : Cfg → (Nat → AH → Option V → Prop) → AH → Prop}
    (h : WP C A (VRel C.X) (eval (.Name x np) env) (fun f H₁ => WPG C A env pos es (fun xs H₂ => CI C A target f xs QI H₂) H₁) H) : WPI C A env (.Call (.Name x np) es [] pos) target QI H := fun s R =>
  wpAny_Call_ofName (wpAny_mono (h s R) (fun fv s₁ p55 => Post.el p55 fun f H₁ q rf R₁ k => callWith_K q.1 (wpAny_mono (q.2 fv s₁ R₁) (fun a s₂ p56 => Post.el p56 fun xs H₂ q₂ p57 R₂ k₂ => p57.elim fun hk ra => by
    obtain ⟨h1, h2⟩ := q₂ fv a.pos s₂ (rf.fz (k₂.fz R₁)) ra R₂
    exact ⟨hk, h1, wpAny_mono h2 (fun _ _ p => wpAny_mono p (fun _ _ p => p.then (k.trans k₂)) fun _ _ e => e) fun _ _ e => e⟩) fun _ _ e => e)) fun _ _ e => e)

-- the sources
noncomputable def listItem (l : Addr) : Nat → AH → Option V → Prop := fun i H r => ∃ vs, (l, AO.list vs) ∈ H ∧ r = vs[i]?
theorem notFrozen_cls {X : List Addr} {a : Addr} {o : Obj} {T : String} (h : o.cls = .type T) (h1 : T ≠ "tuple") (h2 : T ≠ "code") : ¬ Frozen X a o := by
  rintro (⟨_, e, _⟩ | ⟨e, _⟩)
  · rw [h] at e; exact h1 (Value.type.inj e)
  · rw [h] at e; exact h2 (Value.type.inj e)
theorem PlainList.isList {h : Heap} {a : Addr} {items : Array Value} (x : h.PlainList a items) : h.IsList a items := let ⟨n, e⟩ := x; ⟨_, e, rfl, n, rfl⟩
theorem src_list {I l : Addr} (hA : A.handled = none) (hne : l ≠ I) (htup : ∀ (s : Shared) (i : Nat) (v : Value) (P : Unit → Shared → Prop), s.heap.IsListIter I l i → P () s → wpAny (model C.prog C.w) A (letOwnedTupleGo target (.ref I) v) P NoE s) :
    Src C A target (.ref I) [I] [I] (fun i h => h.IsListIter I l i) (listItem l) where
  sub := fun b h => h
  nofz := fun i h ⟨o, e, c, _⟩ b hb o' e' => by
    rw [List.mem_singleton.mp hb, e] at e'; cases e'; exact notFrozen_cls c (by decide) (by decide)
  live := fun i h ⟨o, e, _⟩ b hb => ⟨o, by rw [List.mem_singleton.mp hb]; exact e⟩
  frame := fun i h h' x _ k => x.at fun o e => k I (.head _) o e
  self := fun i s h => wpAny_pyIter_listiter h ⟨rfl, rfl⟩
  item := fun i H s x hJ R hf ⟨vs, hm, hx⟩ => by
    obtain ⟨items, pl, rv⟩ := R.objs _ hm
    obtain ⟨v, hv, rx⟩ := rv.get hx.symm
    refine wpAny_pyNext_list_item hJ (PlainList.isList pl) (by simpa using hv) fun h' hit' hs' => ⟨v, rfl, htup _ _ _ _ hit' ⟨h', s.toks, rfl, ?_, hit', fun b o n e => hs'.extBut b o (fun q => n (by simp [q])) e⟩⟩
    exact rx.fz fun a o e f => hs'.extBut a o (fun q => by
      obtain ⟨o', e', c, _⟩ := hJ
      rw [q, e'] at e; cases e
      exact notFrozen_cls c (by decide) (by decide) f) e
  done := fun i H s hJ R hf ⟨vs, hm, hx⟩ => by
    obtain ⟨items, pl, rv⟩ := R.objs _ hm
    have hz := rv.length
    have hlen := List.getElem?_eq_none_iff.mp hx.symm
    exact wpAny_pyNext_list_end hA hJ (PlainList.isList pl) (by rw [Array.getElem?_eq_none_iff, ← Array.length_toList, hz]; exact hlen) fun h' hs' => ⟨rfl, h', s.toks, rfl, fun b o n e => hs' b o (fun q => n (by simp [q])) e⟩

theorem letGo_skip {I : Addr} {o : Obj} {T : String} {vs : Array Value} {v : Value} {s : Shared} {P : Unit → Shared → Prop} {M : Model} {E : Value → Shared → Prop} (ho : s.heap.get? I = some o) (hc : o.cls = .type T) (hd : o.data = .fields vs)
    (hn : ["enumerate", "zip", "dict_itemiterator", "dict_reverseitemiterator", "odict_iterator", "itertools.zip_longest", "itertools.pairwise"].contains T = false) (h : P () s) : wpAny M A (letOwnedTupleGo target (.ref I) v) P E s := by
  have key : ∀ a, wpAny M A (do
      let o ← load I
      match o.cls, o.data with
      | .type n, .fields vs =>
        if (["enumerate", "zip", "dict_itemiterator", "dict_reverseitemiterator", "odict_iterator", "itertools.zip_longest", "itertools.pairwise"].contains n && vs[0]? == some (rawInt a)) = true then
          rule "for.unpacks-the-owned-tuple"
          updateField I 0 .none
        else pure ()
      | _, _ => pure () : Sem Unit) P E s := fun a => by
    refine wpAny_bind (wpAny_load ho ?_)
    rw [hc, hd]
    simp only [hn, Bool.false_and, Bool.false_eq_true, if_false]
    exact wpAny_pure h
  unfold letOwnedTupleGo
  cases target <;> first
    | exact wpAny_pure h
    | (cases v <;> first
        | exact wpAny_pure h
        | exact key _)

variable {QI : Cfg → (Nat → AH → Option V → Prop) → AH → Prop}
theorem pi_list {l : Addr} {vs : List V} (hA : A.handled = none) (hl : (l, AO.list vs) ∈ H) (q : QI C (listItem l) H) : PI C A target (.ref l) QI H := fun v s rv R => by
  simp only [VRel] at rv; subst rv
  obtain ⟨items, pl, rvs⟩ := R.objs _ hl
  have hlt : l < s.heap.objs.size := by obtain ⟨n, e⟩ := pl; exact Heap.lt_size e
  refine wpAny_pyIter_list (PlainList.isList pl) ?_
  have ext : ∀ b o, s.heap.get? b = some o → (s.heap.push { cls := .type "list_iterator", data := .fields #[.ref l, .int 0 0] }).get? b = some o := fun b o e => Heap.get?_push_of_some _ e
  exact ⟨[], _, _, _, _, H, q, src_list (C := C) hA (Nat.ne_of_lt hlt) (fun s' i v' P hit hp => let ⟨o, ho, hc, hd⟩ := hit; letGo_skip ho hc hd (by decide) hp), ⟨_, Heap.get?_push_size _ rfl, rfl, rfl⟩,
    fun b hb => by rw [List.mem_singleton.mp hb]; exact R.newAddr, fun b hb => by rw [List.mem_singleton.mp hb]; exact ⟨R.baseNew (Nat.le_refl _), .inr (Heap.get?_none_of_le (Nat.le_refl _))⟩, fun b hb => (nomatch hb), R.ext (t := s.toks) ext, kept_of_ext (t := s.toks) ext⟩

noncomputable def fnItem (n : Nat) (f : Nat → V) : Nat → AH → Option V → Prop := fun i _ r => r = if i < n then some (f i) else none
theorem src_walks {I : Addr} {n : Nat} {P : Nat → Value → Prop} {St : Nat → Heap → Prop} {f : Nat → V} {T : String} (W : Walks C.prog C.w A I [I] [I] n P St) (hP : ∀ i v h, P i v → VRel C.X h (f i) v)
    (hS : ∀ i h, St i h → ∃ o vs, h.get? I = some o ∧ o.cls = .type T ∧ o.data = .fields vs) (h1 : T ≠ "tuple") (h2 : T ≠ "code")
    (hn : ["enumerate", "zip", "dict_itemiterator", "dict_reverseitemiterator", "odict_iterator", "itertools.zip_longest", "itertools.pairwise"].contains T = false) :
    Src C A target (.ref I) [I] [I] (fun i h => i ≤ n ∧ St i h) (fnItem n f) where
  sub := fun b h => h
  nofz := fun i h ⟨_, st⟩ b hb o' e' => by
    obtain ⟨o, vs, e, c, _⟩ := hS i h st
    rw [List.mem_singleton.mp hb, e] at e'; cases e'; exact notFrozen_cls c h1 h2
  live := fun i h ⟨_, st⟩ b hb => let ⟨o, vs, e, _⟩ := hS i h st; ⟨o, by rw [List.mem_singleton.mp hb]; exact e⟩
  frame := fun i h h' ⟨hi, st⟩ _ k => ⟨hi, W.frame i h h' st k⟩
  self := fun i s ⟨hi, st⟩ => W.self i s _ _ st ⟨rfl, rfl⟩
  item := fun i H s x ⟨hi, st⟩ R hf hx => by
    have hlt : i < n := Nat.lt_of_not_le fun q => by rw [fnItem, if_neg (by omega)] at hx; cases hx
    rw [fnItem, if_pos hlt] at hx; cases hx
    refine W.item i s _ _ hlt st fun v h' tk p st' k => ⟨v, rfl, ?_⟩
    obtain ⟨o, vs, e, c, d⟩ := hS _ h' st'
    exact letGo_skip (s := { s with heap := h', toks := tk }) e c d hn ⟨h', tk, rfl, hP i v h' p, ⟨hlt, st'⟩, k⟩
  done := fun i H s ⟨hi, st⟩ R hf hx => by
    have hge : ¬ i < n := fun q => by rw [fnItem, if_pos q] at hx; cases hx
    obtain rfl : i = n := by omega
    exact W.done s _ _ st fun h' tk k => ⟨rfl, h', tk, rfl, k⟩

theorem itPost_one {s : Shared} {o : Obj} {J : Nat → Heap → Prop} {Item : Nat → AH → Option V → Prop} {h₀ : Heap} {tk : Tok} (R : Rel C H s) (k₀ : ∀ b o, s.heap.get? b = some o → h₀.get? b = some o) (hz : s.heap.objs.size ≤ h₀.objs.size)
    (S : Src C A target (.ref h₀.objs.size) [h₀.objs.size] [h₀.objs.size] J Item) (hJ : J 0 (h₀.push o)) (q : QI C Item H) :
    ItPost C A target QI H s (.ref h₀.objs.size) { s with heap := h₀.push o, toks := tk } := by
  have ext : ∀ b o', s.heap.get? b = some o' → (h₀.push o).get? b = some o' := fun b o' e => Heap.get?_push_of_some _ (k₀ b o' e)
  exact ⟨[], _, _, J, Item, H, q, S, hJ,
    fun b hb => by rw [List.mem_singleton.mp hb]; exact fun h => absurd (R.lt h) (Nat.not_lt.mpr hz), fun b hb => by rw [List.mem_singleton.mp hb]; exact ⟨R.baseNew hz, .inr (Heap.get?_none_of_le hz)⟩,
    fun b hb => (nomatch hb), R.ext ext, kept_of_ext ext⟩

noncomputable def rangeLen (a b c : Int) : Nat := (Builtin.Range.rangeSize a b c).toNat
noncomputable abbrev rangeItem (a b c : Int) := fnItem (rangeLen a b c) (fun i => .int (a + i * c))
theorem rangeSize_nonneg {a b c : Int} (hc : c ≠ 0) : 0 ≤ Builtin.Range.rangeSize a b c := by
  unfold Builtin.Range.rangeSize
  split <;> split
  · have := Int.ediv_nonneg (a := b - a - 1) (b := c) (by omega) (by omega); omega
  · omega
  · have := Int.ediv_nonneg (a := a - b - 1) (b := -c) (by omega) (by omega); omega
  · omega
theorem iter_range {s s₀ : Shared} {r : Addr} {a b c : Int} {t u v : Tok} (hA : A.handled = none) (hc : c ≠ 0) (hsm : Builtin.Range.small a b c = true) (R : Rel C H s₀)
    (k₀ : ∀ b o, s₀.heap.get? b = some o → s.heap.get? b = some o) (hz : s₀.heap.objs.size ≤ s.heap.objs.size) (hs : ∃ h tk, s = { s₀ with heap := h, toks := tk }) (hr : IsRange s.heap r a b c t u v) (q : QI C (rangeItem a b c) H) :
    wpAny (model C.prog C.w) A (pyIter (.ref r)) (ItPost C A target QI H s₀) NoE s := by
  obtain ⟨h, tk, rfl⟩ := hs
  refine wpAny_pyIter_range hr hsm ?_
  have hn : ((rangeLen a b c : Nat) : Int) = Builtin.Range.rangeSize a b c := Int.toNat_of_nonneg (rangeSize_nonneg hc)
  have W := Walks.range (prog := C.prog) (w := C.w) hA h.objs.size a c (rangeLen a b c)
  refine itPost_one (o := { cls := .type "range_iterator", data := .fields #[rawInt a, rawInt (Builtin.Range.rangeSize a b c), rawInt c] }) R k₀ hz (src_walks (T := "range_iterator") (f := fun i => .int (a + i * c)) W (fun i v h ⟨t, e⟩ => by simp only [VRel]; exact ⟨t, e⟩) (fun i h st => ⟨_, _, st, rfl, rfl⟩) (by decide) (by decide) (by decide)) ⟨Nat.zero_le _, ?_⟩ q
  have := Heap.get?_push_size h (o := { cls := .type "range_iterator", data := .fields #[rawInt a, rawInt (Builtin.Range.rangeSize a b c), rawInt c] }) rfl
  show (h.push _).get? _ = _
  rw [this, hn]
  simp
end
end
noncomputable section
theorem Pick.mem {p : Addr × AO} {H H' : AH} (x : Pick p H H') : p ∈ H := by
  induction x with
  | head => exact .head _
  | tail _ ih => exact .tail _ ih
theorem Sub.of_pick {p : Addr × AO} {H H' : AH} (x : Pick p H H') : Sub H' H := by
  induction x with
  | head => exact .drop (.refl _)
  | tail _ ih => exact .pick .head ih

section
variable {C C' : Cfg} {gl : List (Str × V)} {A : Around} {env : Env} {pos : Pos} {test : Expr} {body orelse : List Stmt} {H H' : AH} {Q : V → AH → Prop} {QF : Fl → AH → Prop} {QB : Bool → AH → Prop}

inductive WSt (C : Cfg) (I : Nat → AH → Prop) (N : Nat) (H : AH) (s : Shared) (n : Nat) (s' : Shared) : Prop
  | mk (i : Nat) (H₁ : AH) (hn : n = N + 1 - i) (hi : i ≤ N) (hI : I i H₁) (R : Rel C H₁ s') (k : Kept H s H₁ s')
theorem wp1_While (I : Nat → AH → Prop) (N : Nat) (h0 : I 0 H)
    (h : ∀ i H₁, i ≤ N → I i H₁ → WPB C A env test (fun t H₂ => (t = true → i < N ∧ WPS C A env body (TurnEnd (I (i + 1)) QF) H₂) ∧ (t = false → WPS C A env orelse QF H₂)) H₁) :
    WP1 C A env (.While test body orelse pos) QF H := fun s R => by
  refine wpAny_While (codeAny_mono (codeAny_whileLoop (R := fun r s' => match r with
      | .ok f => Post C (FRel C.X) QF H s f s' | .error e => False)
    (WSt C I N H s) (fun n s₁ L => ?_) (N + 1) ⟨0, H, rfl, Nat.zero_le _, h0, R, Kept.refl _ _⟩) fun r s₃ h₃ => ?_)
  · cases L with | mk i H₁ hn hi hI R₁ k₁ =>
    refine wpAny_mono (h i H₁ hi hI s₁ R₁) (fun b s₂ p69 => Post.el p69 fun t H₂ q rt R₂ k₂ => ?_) fun _ _ e => e.elim
    cases rt
    cases b with
    | false => exact wpAny_mono (q.2 rfl s₂ R₂) (fun f s₃ p => post_then k₁ (post_then k₂ p)) fun _ _ e => e.elim
    | true =>
      refine wpAny_mono ((q.1 rfl).2 s₂ R₂) (fun f s₃ p70 => Post.el p70 fun fl H₃ q₃ rf R₃ k₃ => ?_) fun _ _ e => e.elim
      have kk := k₁.trans (k₂.trans k₃)
      have g : I (i + 1) H₃ → ∃ m, m < n ∧ WSt C I N H s m s₃ := fun q₃ => ⟨N + 1 - (i + 1), hn ▸ Nat.sub_lt_sub_left (Nat.lt_succ_of_le hi) (Nat.lt_succ_self i), i + 1, H₃, rfl, (q.1 rfl).1, q₃, R₃, kk⟩
      exact TurnEnd.cases q₃ rf g (fun q => ⟨.next, H₃, q, rfl, R₃, kk⟩) fun u w q rw => ⟨.ret u, H₃, q, ⟨w, rfl, rw⟩, R₃, kk⟩
  · cases r with
    | error e => exact h₃.elim
    | ok f => exact h₃

-- list comprehensions
theorem compLoop_tests {elt target iter : Expr} {ifs : List Expr} {scope : Scope} {pos : Pos} {it acc : Value} {env : Env} {prog : Program} {w : World} {R : Result → Shared → Prop} {s : Shared} (I : Nat → Shared → Prop)
    (turn : ∀ n s, I n s → wpAny (model prog w) A (pyNext it) (fun r s₁ => match r with
      | none => R (.ok .next) s₁
      | some v => wpAny (model prog w) A (letOwnedTupleGo target it v) (fun _ s₁ => wpAny (model prog w) A (assign target env v) (fun _ s₂ =>
          wpAny (model prog w) A (forIn ifs true fun c r => if r = true then do let ok ← isTrue c env (eval c env); pure (ForInStep.yield ok) else pure (ForInStep.yield r)) (fun ok s₃ =>
            if ok = true then wpAny (model prog w) A (eval elt env) (fun x s₄ =>
              wpAny (model prog w) A (call (.builtin "list.append") [acc, x]) (fun _ s₅ => ∃ m, m < n ∧ I m s₅) NoE s₄) NoE s₃
            else ∃ m, m < n ∧ I m s₃) NoE s₂) NoE s₁) NoE s₁) NoE s)
    (n : Nat) (h : I n s) :
    codeAny (model prog w) A (.compLoop (.ListComp elt [⟨target, iter, ifs, 0⟩] scope pos) 0 it acc env) R s := by
  refine codeAny_loop rfl I (fun n s hI => ?_) n h
  show wpAny _ A ((compTurn (.ListComp elt [⟨target, iter, ifs, 0⟩] scope pos) 0 it acc env).onRaise (fun x => do noteFrame x env; theTreesLotGoes x)) _ _ s
  refine wpAny_noted ?_
  rw [compTurn_list]
  refine wpAny_bind (wpAny_standAt (wpAny_bind (wpAny_mono (turn n s hI) (fun r s₁ h₁ => ?_) fun _ _ h' => h'.elim)))
  cases r with
  | none => exact wpAny_pure h₁
  | some v =>
    refine wpAny_bind (wpAny_mono h₁ (fun _ s₂ h₁ => ?_) fun _ _ h' => h'.elim)
    refine wpAny_bind (wpAny_mono h₁ (fun _ s₂ h₂ => wpAny_bind (wpAny_mono h₂ (fun ok s₃ h₃ => ?_) fun _ _ h' => h'.elim)) fun _ _ h' => h'.elim)
    cases ok with
    | false => exact wpAny_pure ⟨rfl, h₃⟩
    | true =>
      exact wpAny_bind (wpAny_bind (wpAny_mono h₃ (fun x s₄ h₄ => wpAny_bind (wpAny_mono h₄ (fun _ s₅ h₅ => wpAny_pure (wpAny_pure ⟨rfl, h₅⟩)) fun _ _ h' => h'.elim)) fun _ _ h' => h'.elim))

noncomputable abbrev WPT (C : Cfg) (A : Around) (env : Env) (ifs : List Expr) (Q : Bool → AH → Prop) (H : AH) : Prop :=
  WP C A BRel (forIn ifs true fun c r => if r = true then do let ok ← isTrue c env (eval c env); pure (ForInStep.yield ok) else pure (ForInStep.yield r)) Q H
theorem wpt_nil (h : QB true H) : WPT C A env [] QB H := fun _ R => wpAny_tests_nil (post_id R rfl h)

noncomputable def CompTurns (C C' : Cfg) (A : Around) (cenv : Env) (target : Expr) (ifs : List Expr) (elt : Expr) (a : Addr) (Item : Nat → AH → Option V → Prop) (Fin : List V → AH → Prop) (H : AH) : Prop :=
  ∃ (I : Nat → List V → AH → Prop) (N : Nat), I 0 [] H ∧ ∀ i acc H₁, i ≤ N → I i acc H₁ →
    (∃ x, i < N ∧ Item i H₁ (some x) ∧ WPA C' A cenv target x (fun _ H₂ => WPT C' A cenv ifs (fun ok H₃ =>
      (ok = true → WP C' A (VRel C'.X) (eval elt cenv) (fun y H₄ => acc.length ≤ 100000 ∧ ∃ H₅, Upd a (.list acc) (.list (acc ++ [y])) H₄ H₅ ∧ I (i + 1) (acc ++ [y]) H₅) H₃) ∧
      (ok = false → I (i + 1) acc H₃)) H₂) H₁) ∨ (Item i H₁ none ∧ Fin acc H₁)

theorem compLoop_gen {elt target iter : Expr} {ifs : List Expr} {scope : Scope} {it : Value} {a : Addr} {Item : Nat → AH → Option V → Prop} {fp wr : List Addr} {J : Nat → Heap → Prop} {s : Shared} {l : List Addr} {Fin : List V → AH → Prop}
    (S : Src (C.hide l) A target it fp wr J Item) (R : Rel (C.hide l) H s) (hJ : J 0 s.heap) (hfp : ∀ b ∈ fp, b ∉ keys H) (hB : ∀ b ∈ wr, C.B.get? b = none) (hX : ∀ b ∈ wr, b ∉ C.X) (hl : ∀ b ∈ l, b ∈ wr)
    (T : CompTurns C (C.hide l) A env target ifs elt a Item Fin H) :
    codeAny (model C.prog C.w) A (.compLoop (.ListComp elt [⟨target, iter, ifs, 0⟩] scope pos) 0 it (.ref a) env) (fun r s' => r = .ok .next ∧ ∃ acc H', Fin acc H' ∧ Rel C H' s' ∧ KB wr H s H' s') s := by
  refine Exists.elim T fun I T => Exists.elim T fun N T => compLoop_tests (LSt (C.hide l) fp wr J (fun i H => ∃ acc, I i acc H) N H s) (fun n s₁ L => S.turn (W := fun i H₁ x => ∃ acc : List V, _) (Z := fun _ H₁ => ∃ acc, Fin acc H₁) hB hX hl L (fun i H₁ hi h => h.elim fun acc hI =>
      (T.2 i acc H₁ hi hI).imp (fun h => E13 h fun x a b c => ⟨x, a, b, acc, c⟩) fun h => ⟨h.1, acc, h.2⟩) (fun i H₁ x v s₂ hw rv R₂ go => Exists.elim hw fun acc hw => ?_)
    (fun i H₁ s₂ hw R₂ kb => ⟨rfl, hw.elim fun acc hw => ⟨acc, H₁, hw, R₂, kb⟩⟩) (fun _ h => h) fun _ _ h => h) (N + 1)
    ⟨0, H, rfl, Nat.zero_le _, ⟨[], T.1⟩, R, hJ, hfp, fun b o _ n e => ⟨e, n⟩⟩
  refine wpAny_mono (hw v _ rv R₂) (fun _ s₄ p71 => Post.el p71 fun _ H₂ q _ R₃ k₃ => wpAny_mono (q s₄ R₃) (fun ok s₅ p72 => Post.el p72 fun t H₃ q₃ rt R₄ k₄ => ?_) fun _ _ e => e.elim) fun _ _ e => e.elim
  cases rt
  cases ok with
  | false => exact (go H₃ s₅ R₄ (k₃.trans k₄)).1 ⟨_, q₃.2 rfl⟩
  | true =>
    refine wpAny_mono (q₃.1 rfl s₅ R₄) (fun y s₆ p73 => Post.el p73 fun y' H₄ q₄ ry R₅ k₅ => E12 q₄.2 fun H₅ hu q₅ => E12 (R₅.objs _ hu.mem) fun items pl rvs => ?_) fun _ _ e => e.elim
    refine wpAny_list_append_plain pl (fun h₆ pl' hs' => ?_) (by rw [← Array.length_toList, rvs.length, sizeLine_eq]; exact Nat.le_trans q₄.1 (by decide))
    have hf : Fz (C.hide l).X s₆.heap h₆ := fun b o e f => hs'.extBut b o (fun q => R₅.notin e f (q ▸ List.mem_map_of_mem (f := Prod.fst) hu.mem)) e
    have R₆ := R₅.upd hu (h' := h₆) (t := s₆.toks) (fun b o n e => hs'.extBut b o n e) ⟨_, pl', by rw [Array.toList_push]; exact (rvs.fz hf).append (.cons (ry.fz hf) .nil)⟩
    exact (go H₅ _ R₆.1 (((k₃.trans k₄).trans k₅).trans R₆.2)).1 ⟨_, q₅⟩

theorem pick_nd {p : Addr × AO} {H H' : AH} (x : Pick p H H') (nd : (keys H).Nodup) : p.1 ∉ keys H' := by
  have h := (x.perm.map Prod.fst).nodup_iff.mp nd
  exact (List.nodup_cons.mp (by simpa using h)).1

theorem Rel.butX {s : Shared} (R : Rel C H s) {wr : List Addr} (hk : ∀ b ∈ wr, b ∉ keys H) (hB : ∀ b ∈ wr, C.B.get? b = none) (hfz : ∀ b ∈ wr, ∀ o, s.heap.get? b = some o → ¬ Frozen C.X b o) {h' : Heap} {t : Tok}
    (hl : ∀ b ∈ wr, b ∉ C.X) (k : ∀ b o, b ∉ wr → s.heap.get? b = some o → h'.get? b = some o) : Rel C H { s with heap := h', toks := t } where
  keep := fun b o e => k b o (fun q => by rw [hB b q] at e; cases e) (R.keep b o e)
  gens := R.gens
  os := R.os
  nd := R.nd
  fresh := R.fresh
  objs := fun p hp => (R.objs p hp).move (fun a o e f => k a o (fun q => hfz a q o e f) e) fun o e => k _ o (fun q => hk _ q (List.mem_map_of_mem hp)) e
  xl := fun a ha => by
    obtain ⟨n, o, e⟩ := R.xl a ha
    exact ⟨n, o, k a o (fun q => hl a q ha) e⟩

theorem comp_go {s : Shared} {cn : Addr} {ln : List Str} {vals : List (Option V)} {H₁ H₂ : AH} (R : Rel C H₁ s) (p : Pick (cn, .ns ln vals) H₁ H₂) {h' : Heap} (hs : Heap.SameBut cn s.heap h') :
    Rel C H₂ { s with heap := h' } ∧ Kept H₁ s H₂ { s with heap := h' } := by
  have R₂ := R.sub (Sub.of_pick p)
  have hk := pick_nd p R.nd
  refine ⟨R₂.butX (wr := [cn]) (t := s.toks) (fun b hb => by rw [List.mem_singleton.mp hb]; exact hk) (fun b hb => by rw [List.mem_singleton.mp hb]; exact R.fresh _ p.mem) (fun b hb o e => ?_) (fun b hb => ?_) fun b o n e => hs.extBut b o (fun q => n (by simp [q])) e, fun b o n e => ?_⟩
  · rw [List.mem_singleton.mp hb] at e ⊢
    obtain ⟨o', e', n⟩ := (R.objs _ p.mem).live
    simp only [] at e'
    rw [e] at e'; cases e'; exact n
  · rw [List.mem_singleton.mp hb]
    exact fun q => (R.xl _ q).1 (List.mem_map_of_mem (f := Prod.fst) p.mem)
  · have hne : b ≠ cn := fun q => n (q ▸ List.mem_map_of_mem (f := Prod.fst) p.mem)
    exact ⟨hs.extBut b o hne e, fun h => n ((Sub.of_pick p).kmem h)⟩

theorem nones_rel {X : List Addr} {h : Heap} {m : Str → Option Value} : ∀ {ln : List Str}, NsRel X h m ln (ln.map fun _ => none)
  | [] => rfl
  | _ :: ln => ⟨none, _, rfl, fun _ e => (nomatch e), nones_rel⟩

theorem cframe {C' : Cfg} {target : Expr} {it : Value} {fp wr : List Addr} {J : Nat → Heap → Prop} {Item : Nat → AH → Option V → Prop} {s : Shared} {o : Obj} {x : AO} {h₁ : Heap} {ln : List Str} {m : Str → Option Value} {t : Tok} {P : Prop} (S : Src C' A target it fp wr J Item) (R : Rel C' H s) (hJ : J 0 s.heap)
    (ho : o.isFreed = false) (hk : ∀ b ∈ fp, b ∉ keys H) (hx : ∀ h : Heap, h.get? s.heap.objs.size = some o → ORel C'.X h s.heap.objs.size x) (nd : ln.Nodup) (hns : h₁.Ns (s.heap.push o).objs.size m) (ext₂ : ∀ b u, (s.heap.push o).get? b = some u → h₁.get? b = some u)
    (k : Rel C' (((s.heap.push o).objs.size, .ns ln (ln.map fun _ => none)) :: (s.heap.objs.size, x) :: H) { s with heap := h₁, toks := t } → J 0 h₁ →
      (∀ b ∈ fp, b ∉ keys (((s.heap.push o).objs.size, .ns ln (ln.map fun _ => none)) :: (s.heap.objs.size, x) :: H)) →
      Kept H s (((s.heap.push o).objs.size, .ns ln (ln.map fun _ => none)) :: (s.heap.objs.size, x) :: H) { s with heap := h₁, toks := t } → P) : P := by
  have ext₁ : ∀ b u, s.heap.get? b = some u → (s.heap.push o).get? b = some u := fun b u e => Heap.get?_push_of_some _ e
  have kk : Kept H s (((s.heap.push o).objs.size, .ns ln (ln.map fun _ => none)) :: (s.heap.objs.size, x) :: H) { s with heap := h₁, toks := t } :=
    (kept_add (t := s.toks) ext₁ (Nat.le_refl _)).trans (kept_add (s := { s with heap := s.heap.push o }) (t := t) ext₂ (Nat.le_refl _))
  exact k ((R.add (t := s.toks) ext₁ (Nat.le_refl _) (hx _ (Heap.get?_push_size _ ho))).add (t := t) ext₂ (Nat.le_refl _) ⟨nd, _, hns, nones_rel⟩)
    (S.frame 0 _ _ hJ (fz_of_ext fun b o e => ext₂ _ _ (ext₁ _ _ e)) fun b hb o e => ext₂ _ _ (ext₁ _ _ e)) (fun b hb => (S.live 0 s.heap hJ b hb).elim fun o e => (kk b o (hk b hb) e).2) kk
theorem comp_gen {elt target iter : Expr} {ifs : List Expr} {scope : Scope} {cl : List (Str × Addr)} {use : Option (Value → Sem Unit)} {ln : List Str} {Fin : Addr → Addr → List V → AH → Prop} {QQ : Value → Shared → Prop} {s : Shared} {fpos : Pos}
    (R : Rel C H s) (hclos : closureFor scope env = pure cl) (hcell : ∀ x ∈ scope.names, x.2 ≠ .cell) (hkind : scope.kind = .function) (hnames : ∀ x ∈ scope.names, x.2 = .local → scope.names.lookup x.1 = some .local) (nd : ln.Nodup)
    (h : WPI C A env iter target (fun C' Item H₁ => ∀ a cn, CompTurns C C' A (compEnvC scope cl cn env) target ifs elt a Item (Fin a cn) ((cn, .ns ln (ln.map fun _ => none)) :: (a, .list []) :: H₁)) H)
    (hfin : ∀ a cn acc H₁ s', Fin a cn acc H₁ → Rel C H₁ s' → Kept H s H₁ s' → compPost (model C.prog C.w) A NoE use QQ (.ref a) cn (.ok .next) s')
    (hs : ∀ x, foldedSetIterable iter env x = pure x := by intro _; with_unfolding_all rfl) :
    wpAny (model C.prog C.w) A (comprehension (.ListComp elt [⟨target, iter, ifs, 0⟩] scope pos) scope env fpos (newList []) false (eval iter env) use) QQ NoE s := by
  refine wpAny_comprehension_free rfl hs hclos hkind hnames (wpAny_mono (h s R) (fun v s₁ h₁ => wpAny_mono h₁ (fun it s₂ h₂ => ?_) fun _ _ e => e) fun _ _ e => e)
  refine ItPost.elim h₂ R fun l fp wr J Item H₂ T S hJ hk hB hX hl R₂ k₂ kk => ?_
  refine wpAny_newObj_type (wpAny_newFunctionEnv hcell (by intro y hy; simp at hy) (fun h₁ hns hsb => ?_) hkind) (by size_fits)
  refine cframe (t := s₂.toks + 0) (x := .list []) S R₂ hJ rfl hk (fun h e => ⟨#[], ⟨0, e⟩, VsRel.nil⟩) nd hns (fun b o e => hsb.extBut b o (Nat.ne_of_lt (Heap.lt_size e)) (Heap.get?_push_of_some _ e)) fun R₄ hJ₁ hf₁ k₄ => ?_
  have loop' := codeAny_mono (compLoop_gen (scope := scope) (pos := pos) (iter := iter) (env := compEnvC scope cl _ env) S R₄ hJ₁ hf₁ hB hX hl (T _ _)) fun r s₅ h₅ => h₅.1 ▸ E23 h₅.2 fun acc H₅ hF R₅ kb => hfin _ _ acc H₅ s₅ hF R₅ (kk _ _ _ _ (k₂.trans k₄) kb)
  exact codeAny_compStart_list loop' (wpAny_mono (S.self 0 _ hJ₁) (fun r s' e => e.1 ▸ e.2 ▸ loop') fun _ _ e => e.elim)

theorem wp_ListComp {elt target iter : Expr} {ifs : List Expr} {scope : Scope} {cl : List (Str × Addr)} {ln : List Str}
    (hclos : closureFor scope env = pure cl) (hcell : ∀ x ∈ scope.names, x.2 ≠ .cell) (hkind : scope.kind = .function) (hnames : ∀ x ∈ scope.names, x.2 = .local → scope.names.lookup x.1 = some .local) (nd : ln.Nodup)
    (h : WPI C A env iter target (fun C' Item H₁ => ∀ a cn, CompTurns C C' A (compEnvC scope cl cn env) target ifs elt a Item
      (fun acc H₂ => ∃ vals H₃, Pick (cn, .ns ln vals) H₂ H₃ ∧ Q (.ref a) H₃) ((cn, .ns ln (ln.map fun _ => none)) :: (a, .list []) :: H₁)) H)
    (hs : ∀ x, foldedSetIterable iter env x = pure x := by intro _; with_unfolding_all rfl) :
    WP C A (VRel C.X) (eval (.ListComp elt [⟨target, iter, ifs, 0⟩] scope pos) env) Q H := fun s R => by
  rw [eval_ListComp]
  refine comp_gen (use := none) R hclos hcell hkind hnames nd h (fun a cn acc H₁ s' ⟨vals, H₃, p, q⟩ R₁ k₁ => ?_) hs
  obtain ⟨_, m, hn, _⟩ := R₁.objs _ p.mem
  refine ⟨m, hn, fun h' hs' => ?_⟩
  obtain ⟨R₂, k₂⟩ := comp_go R₁ p hs'
  exact ⟨.ref a, H₃, q, rfl, R₂, k₁.trans k₂⟩

theorem wp1_Assign_ListComp {elt target iter : Expr} {ifs : List Expr} {scope : Scope} {cl : List (Str × Addr)} {ln : List Str} {y : Str} {py spos : Pos}
    (hsw : swapsWith (.ListComp elt [⟨target, iter, ifs, 0⟩] scope pos) (some (.Name y py)) spos.line env = pure true)
    (hclos : closureFor scope env = pure cl) (hcell : ∀ x ∈ scope.names, x.2 ≠ .cell) (hkind : scope.kind = .function) (hnames : ∀ x ∈ scope.names, x.2 = .local → scope.names.lookup x.1 = some .local) (nd : ln.Nodup)
    (h : WPI C A env iter target (fun C' Item H₁ => ∀ a cn, CompTurns C C' A (compEnvC scope cl cn env) target ifs elt a Item
      (fun acc H₂ => Op1 C A URel (storeName env y) (.ref a) (fun _ H₃ => ∃ vals H₄, Pick (cn, .ns ln vals) H₃ H₄ ∧ QF .next H₄) H₂) ((cn, .ns ln (ln.map fun _ => none)) :: (a, .list []) :: H₁)) H)
    (hs : ∀ x, foldedSetIterable iter env x = pure x := by intro _; with_unfolding_all rfl) :
    WP1 C A env (.Assign [.Name y py] (.ListComp elt [⟨target, iter, ifs, 0⟩] scope pos) spos) QF H := fun s R => by
  rw [exec_Assign_Name_used _ _ _ _ hsw]
  refine wpAny_bind (wpAny_standAt (wpAny_bind ?_))
  show wpAny _ A (do let _ ← comprehension (.ListComp elt [⟨target, iter, ifs, 0⟩] scope pos) scope env _ (newList []) false (eval iter env) (some (assign (.Name y py) env))) _ _ s
  refine wpAny_bind (wpAny_mono (comp_gen (use := some (assign (.Name y py) env)) (QQ := fun _ s' => ∃ H₄, QF .next H₄ ∧ Rel C H₄ s' ∧ Kept H s H₄ s') R hclos hcell hkind hnames nd h (fun a cn acc H₁ s' q R₁ k₁ => ?_) hs)
    (fun _ s' ⟨H₄, q, R₄, k₄⟩ => wpAny_pure (wpAny_pure ⟨.next, H₄, q, rfl, R₄, k₄⟩)) fun _ _ e => e)
  refine wpAny_assign_Name (wpAny_mono (q (.ref a) s' rfl R₁) (fun _ s₂ ⟨_, H₃, ⟨vals, H₄, p, q₄⟩, _, R₃, k₃⟩ => ?_) fun _ _ e => e)
  obtain ⟨_, m, hn, _⟩ := R₃.objs _ p.mem
  refine ⟨m, hn, fun h' hs' => ?_⟩
  obtain ⟨R₂, k₂⟩ := comp_go R₃ p hs'
  exact ⟨H₄, q₄, R₂, (k₁.trans k₃).trans k₂⟩
end
end
noncomputable section
section
variable {C C' : Cfg} {gl : List (Str × V)} {A : Around} {env : Env} {pos tpos : Pos} {H H' : AH} {Q : V → AH → Prop} {QF : Fl → AH → Prop} {QB : Bool → AH → Prop} {QU : Unit → AH → Prop}

theorem wp1_Assign {t value : Expr} (h : WP C A (VRel C.X) (eval value env) (fun v H₁ => WPA C A env t v (fun _ H₂ => QF .next H₂) H₁) H)
    (hs : swapsWithSole [t] value pos.line env = pure false := by with_unfolding_all rfl) (hw : swappedStores [t] value env = pure none := by with_unfolding_all rfl)
    (he : (assignEach [t] env).map (·.2) = [assign t env] := by with_unfolding_all rfl) : WP1 C A env (.Assign [t] value pos) QF H := fun s R => by
  rw [exec_Assign]
  refine wpAny_bind (wpAny_standAt ?_)
  rw [hs]
  refine wpAny_bind (wpAny_pure ?_)
  rw [if_neg (by decide)]
  refine wpAny_bind (wpAny_mono (h s R) (fun v s₁ p80 => Post.el p80 fun x H₁ q rv R₁ k => ?_) fun _ _ x => x)
  rw [hw, he]
  refine wpAny_bind (wpAny_pure ?_)
  show wpAny _ A (do assignAll v [assign t env]; pure Flow.next) _ _ s₁
  exact wpAny_bind (wpAny_mono (q v s₁ rv R₁) (fun _ _ p81 => Post.el p81 fun _ H₂ q₂ _ R₂ k₂ => wpAny_pure ⟨.next, H₂, q₂, rfl, R₂, k.trans k₂⟩) fun _ _ x => x)

noncomputable def WPAs (C : Cfg) (A : Around) (fs : List (Value → Sem Unit)) (vs : List V) (Q : Unit → AH → Prop) (H : AH) : Prop :=
  ∀ ws s, VsRel C.X s.heap vs ws → Rel C H s → wpAny (model C.prog C.w) A (assignInOrder fs ws) (Post C URel Q H s) NoE s
theorem wpas_nil (q : QU () H) : WPAs C A [] [] QU H := fun ws s r R => by
  simp only [VsRel] at r; subst r
  exact wpAny_pure ⟨(), H, q, trivial, R, Kept.refl _ _⟩
theorem wpas_cons {f : Value → Sem Unit} {fs : List (Value → Sem Unit)} {v : V} {vs : List V} (h : Op1 C A URel f v (fun _ H₁ => WPAs C A fs vs QU H₁) H) : WPAs C A (f :: fs) (v :: vs) QU H := fun ws s r R => by
  simp only [VsRel] at r
  obtain ⟨w, l, rfl, r1, r2⟩ := r
  show wpAny _ A (do holding l (f w); assignInOrder fs l) _ _ s
  refine wpAny_bind (wpAny_holding (wpAny_mono (h w s r1 R) (fun _ s₁ p82 => Post.el p82 fun _ H₁ q _ R₁ k => ?_) fun _ _ x => x))
  exact wpAny_mono (q l s₁ (r2.fz (k.fz R)) R₁) (fun _ _ p => post_then k p) fun _ _ x => x

theorem asg_Tuple {elts : List Expr} {k : Nat} {vs : List V} (hA : A.handled = none) (h : WPAs C A ((assignEach elts env).map (·.2)) vs QU H)
    (hn : (assignEach elts env).length = vs.length := by with_unfolding_all rfl) (hstar : (assignEach elts env).findIdx? (·.1) = none := by with_unfolding_all rfl) : WPA C A env (.Tuple elts k pos) (.tup vs) QU H := fun w s r R => by
  simp only [VRel] at r
  obtain ⟨a, items, rfl, hX, ht, rvs⟩ := r
  have hl := rvs.length
  refine wpAny_assign_Tuple hA ht (by rw [hn, ← hl]; simp) hstar fun h' he => ?_
  have ext : ∀ b o, s.heap.get? b = some o → h'.get? b = some o := fun b o e => he b o (Nat.ne_of_lt (Heap.lt_size e)) e
  exact wpAny_mono (h _ { s with heap := h' } (rvs.fz (fz_of_ext ext)) (R.ext (t := s.toks) ext)) (fun _ _ p => post_then (kept_of_ext (t := s.toks) ext) p) fun _ _ x => x

theorem op_bind {x : Str} {v : V} (h : Op1 C A URel (storeName env x) v QU H) : Op1 C A URel (bindName env x) v QU H := fun w s r R => wpAny_bindName (h w s r R)

theorem asg_Attribute {o : Expr} {name : Str} {v : V} (h : WP C A (VRel C.X) (eval o env) (fun x H₁ => Op2 C A URel (fun o v => setAttr o name v) x v QU H₁) H) : WPA C A env (.Attribute o name pos) v QU H := fun w s r R => by
  rw [arm_assign_Attribute]
  refine wpAny_bind (wpAny_holding (wpAny_mono (h s R) (fun ov s₁ p86 => Post.el p86 fun x H₁ q rx R₁ k => ?_) fun _ _ e => e))
  refine wpAny_bind (wpAny_standAt (wpAny_bind (wpAny_holding (wpAny_mono (q ov w s₁ rx (r.fz (k.fz R)) R₁) (fun _ s₂ p => ?_) fun _ _ e => e))))
  exact wpAny_release (post_then k p)

noncomputable def Op3 (C : Cfg) (A : Around) {α β : Type} (T : Heap → β → α → Prop) (f : Value → Value → Value → Sem α) (x y z : V) (Q : β → AH → Prop) (H : AH) : Prop :=
  ∀ v w u s, VRel C.X s.heap x v → VRel C.X s.heap y w → VRel C.X s.heap z u → Rel C H s → wpAny (model C.prog C.w) A (f v w u) (Post C T Q H s) NoE s
theorem asg_Subscript {o i : Expr} {v : V} (h : WP C A (VRel C.X) (eval o env) (fun x H₁ => WP C A (VRel C.X) (eval i env) (fun y H₂ => Op3 C A URel setItem x y v QU H₂) H₁) H) : WPA C A env (.Subscript o i pos) v QU H := fun w s r R => by
  rw [arm_assign_Subscript]
  refine wpAny_bind (wpAny_holding (wpAny_mono (h s R) (fun ov s₁ p87 => Post.el p87 fun x H₁ q rx R₁ k => ?_) fun _ _ e => e))
  refine wpAny_bind (wpAny_holding (wpAny_mono (q s₁ R₁) (fun iv s₂ p88 => Post.el p88 fun y H₂ q₂ ry R₂ k₂ => ?_) fun _ _ e => e))
  refine wpAny_bind (wpAny_standAt (wpAny_bind (wpAny_holding (wpAny_mono (q₂ ov iv w s₂ (rx.fz (k₂.fz R₁)) ry ((r.fz (k.fz R)).fz (k₂.fz R₁)) R₂) (fun _ s₃ p => ?_) fun _ _ e => e))))
  exact wpAny_release (post_then k (post_then k₂ p))

theorem wp1_Aug_Attribute {o value : Expr} {attr : Str} {op : Operator}
    (h : WP C A (VRel C.X) (eval o env) (fun x H₁ => Op1 C A (VRel C.X) (fun o => getAttr o attr true) x (fun u H₂ => WP C A (VRel C.X) (eval value env) (fun y H₃ =>
      Op2 C A (VRel C.X) (inplaceOp op) u y (fun z H₄ => Op2 C A URel (fun o v => setAttr o attr v) x z (fun _ H₅ => QF .next H₅) H₄) H₃) H₂) H₁) H) :
    WP1 C A env (.AugAssign (.Attribute o attr tpos) op value pos) QF H := fun s R =>
  wpAny_AugAssign_AttributeAny (wpAny_mono (h s R) (fun ov s₁ p89 => Post.el p89 fun x H₁ q rx R₁ k => wpAny_mono (q ov s₁ rx R₁) (fun old s₂ p90 => Post.el p90 fun u H₂ q₂ ru R₂ k₂ => 
    wpAny_mono (q₂ s₂ R₂) (fun v s₃ p91 => Post.el p91 fun y H₃ q₃ ry R₃ k₃ => wpAny_mono (q₃ old v s₃ (ru.fz (k₃.fz R₂)) ry R₃) (fun nw s₄ p92 => Post.el p92 fun z H₄ q₄ rz R₄ k₄ => 
      wpAny_mono (q₄ ov nw s₄ (((rx.fz (k₂.fz R₁)).fz (k₃.fz R₂)).fz (k₄.fz R₃)) rz R₄) (fun _ s₅ p93 => Post.el p93 fun _ H₅ q₅ _ R₅ k₅ => ⟨.next, H₅, q₅, rfl, R₅, (((k.trans k₂).trans k₃).trans k₄).trans k₅⟩)
        fun _ _ e => e) fun _ _ e => e) fun _ _ e => e) fun _ _ e => e) fun _ _ e => e)

theorem wp_Attribute {o : Expr} {name : Str} (h : WP C A (VRel C.X) (eval o env) (fun x H₁ => Op1 C A (VRel C.X) (fun o => getAttr o name true) x Q H₁) H)
    (hbase : attributeBase o name env (eval o env) = eval o env := by with_unfolding_all rfl) : WP C A (VRel C.X) (eval (.Attribute o name pos) env) Q H := fun s R => by
  rw [arm_eval_Attribute, hbase]
  refine wpAny_bind (wpAny_mono (h s R) (fun ov s₁ p94 => Post.el p94 fun x H₁ q rx R₁ k => ?_) fun _ _ e => e)
  refine wpAny_bind (wpAny_standAt (wpAny_bind (wpAny_holding (wpAny_mono (q ov s₁ rx R₁) (fun r s₂ p => ?_) fun _ _ e => e))))
  exact wpAny_bind (wpAny_letTemporaryGo (wpAny_pure (post_then k p)))

noncomputable def GI (C : Cfg) (A : Around) (x y : V) (Q : V → AH → Prop) (H : AH) : Prop :=
  ∀ o i s, VRel C.X s.heap x o → VRel C.X s.heap y i → Rel C H s → ItemOn (model C.prog C.w) A NoE o i (Post C (VRel C.X) Q H s) s
theorem item_tail {value slice : Expr} {o i : Value} {P : Value → Shared → Prop} {s : Shared} (h : ItemOn (model C.prog C.w) A NoE o i P s) :
    wpAny (model C.prog C.w) A (getitemInPython o >>= fun p => subscripted slice p o i >>= fun r => letTemporaryGo value o r >>= fun _ => pure r) P NoE s := by
  obtain ⟨T, id, hl, hT, hg⟩ := h
  refine wpAny_bind ?_
  rw [getitemInPython_of_ne hT.not_modules]
  refine wpAny_bind (wpAny_specialOf hT hl (wpAny_pure ?_))
  have fin : ∀ vs, wpAny (model C.prog C.w) A (operate vs (getItem o i)) (fun r s₃ => wpAny (model C.prog C.w) A (letTemporaryGo value o r >>= fun _ => pure r) P NoE s₃) NoE s := fun vs =>
    wpAny_operating (wpAny_mono hg (fun r s₃ h₃ => wpAny_bind (wpAny_letTemporaryGo (wpAny_pure h₃))) fun _ _ x => x)
  refine wpAny_bind ?_
  unfold subscripted
  split
  · exact fin _
  · rename_i he; cases he
  · exact fin _
theorem wp_Subscript {o i : Expr} (h : WP C A (VRel C.X) (eval o env) (fun x H₁ => WP C A (VRel C.X) (eval i env) (fun y H₂ => GI C A x y Q H₂) H₁) H) : WP C A (VRel C.X) (eval (.Subscript o i pos) env) Q H := fun s R => by
  rw [eval_Subscript]
  refine wpAny_bind (wpAny_mono (h s R) (fun ov s₁ p95 => Post.el p95 fun x H₁ q rx R₁ k => ?_) fun _ _ e => e)
  refine wpAny_bind (wpAny_holding (wpAny_mono (q s₁ R₁) (fun iv s₂ p96 => Post.el p96 fun y H₂ q₂ ry R₂ k₂ => ?_) fun _ _ e => e))
  refine wpAny_bind (wpAny_standAt (item_tail ?_))
  obtain ⟨T, id, hl, hT, hg⟩ := q₂ ov iv s₂ (rx.fz (k₂.fz R₁)) ry R₂
  exact ⟨T, id, hl, hT, wpAny_mono hg (fun _ _ p => post_then k (post_then k₂ p)) fun _ _ e => e⟩

noncomputable def PRel (_ : Heap) : Option Int → Value → Prop := fun o v => IsPart v o
noncomputable abbrev WPP (C : Cfg) (A : Around) (env : Env) (e : Option Expr) (Q : Option Int → AH → Prop) (H : AH) : Prop := WP C A PRel (evalPart e env) Q H
variable {QP : Option Int → AH → Prop}
theorem wpp_none (q : QP none H) : WPP C A env none QP H := fun s R => wpAny_pure (post_id (x := none) R .none q)
theorem wpp_some {e : Expr} (h : WP C A (VRel C.X) (eval e env) (fun x H₁ => IntOf x (fun i => QP (some i) H₁)) H) : WPP C A env (some e) QP H := fun s R =>
  wpAny_mono (h s R) (fun v s₁ ⟨x, H₁, ⟨i, hx, q⟩, r, R₁, k⟩ => by
    subst hx; simp only [VRel] at r; obtain ⟨t, rfl⟩ := r
    exact ⟨some i, H₁, q, .int i t, R₁, k⟩) fun _ _ e => e
noncomputable def GS (C : Cfg) (A : Around) (x : V) (l u st : Option Int) (Q : V → AH → Prop) (H : AH) : Prop :=
  ∀ o sl vl vu vs s, VRel C.X s.heap x o → s.heap.IsSliceOf sl vl vu vs → IsPart vl l → IsPart vu u → IsPart vs st → Rel C H s → ItemOn (model C.prog C.w) A NoE o (.ref sl) (Post C (VRel C.X) Q H s) s
theorem wp_Slice {o : Expr} {l u st : Option Expr} {p : Pos}
    (h : WP C A (VRel C.X) (eval o env) (fun x H₁ => WPP C A env l (fun l H₂ => WPP C A env u (fun u H₃ => WPP C A env st (fun st H₄ => GS C A x l u st Q H₄) H₃) H₂) H₁) H) :
    WP C A (VRel C.X) (eval (.Subscript o (.Slice l u st p) pos) env) Q H := fun s R => by
  rw [eval_Subscript]
  refine wpAny_bind (wpAny_mono (h s R) (fun ov s₁ p99 => Post.el p99 fun x H₁ q rx R₁ k => ?_) fun _ _ e => e)
  refine wpAny_bind (wpAny_holding (wpAny_Slice (wpAny_mono (q s₁ R₁) (fun lv s₂ p100 => Post.el p100 fun lo H₂ q₂ rl R₂ k₂ => wpAny_mono (q₂ s₂ R₂) (fun uv s₃ p101 => Post.el p101 fun hi H₃ q₃ ru R₃ k₃ => wpAny_mono (q₃ s₃ R₃) (fun sv s₄ p102 => Post.el p102 fun st' H₄ q₄ rst R₄ k₄ => ?_)
    fun _ _ e => e) fun _ _ e => e) fun _ _ e => e)))
  refine wpAny_bind (wpAny_standAt (item_tail ?_))
  have ext : ∀ b o, s₄.heap.get? b = some o → (s₄.heap.push { cls := .type "slice", data := .fields #[lv, uv, sv] }).get? b = some o := fun b o e => Heap.get?_push_of_some _ e
  obtain ⟨T, id, hl, hT, hg⟩ := q₄ ov _ lv uv sv _ ((((rx.fz (k₂.fz R₁)).fz (k₃.fz R₂)).fz (k₄.fz R₃)).fz (fz_of_ext ext)) (Heap.IsSliceOf.new s₄.heap lv uv sv) rl ru rst (R₄.ext (t := s₄.toks) ext)
  exact ⟨T, id, hl, hT, wpAny_mono hg (fun _ _ p => post_then k (post_then k₂ (post_then k₃ (post_then k₄ (post_then (kept_of_ext (t := s₄.toks) ext) p))))) fun _ _ e => e⟩

-- items
theorem filterMap_rel {X : List Addr} {h : Heap} {us : List V} {vs : List Value} (r : VsRel X h us vs) : ∀ is : List Nat, VsRel X h (is.filterMap (us[·]?)) (is.filterMap (vs[·]?))
  | [] => VsRel.nil
  | i :: is => by
    rw [List.filterMap_cons, List.filterMap_cons]
    cases e : us[i]? with
    | none =>
      have : vs[i]? = none := by rw [List.getElem?_eq_none_iff, r.length, ← List.getElem?_eq_none_iff]; exact e
      rw [this]; exact filterMap_rel r is
    | some u =>
      obtain ⟨v, hv, rv⟩ := r.get e
      rw [hv]; exact .cons rv (filterMap_rel r is)
noncomputable def pySlice {α : Type} (l : List α) (lo hi st : Option Int) : List α :=
  (sliceRange (sliceBounds lo hi st l.length).1 (sliceBounds lo hi st l.length).2.1 (sliceBounds lo hi st l.length).2.2).filterMap (l[·]?)

theorem gi_list {l : Addr} {vs : List V} {i : Int} {v : V} (hl : (l, AO.list vs) ∈ H) (h0 : 0 ≤ i) (hx : vs[i.toNat]? = some v) (hz : vs.length ≤ 1000000) (q : Q v H) : GI C A (.ref l) (.int i) Q H := fun o iv s ro ri R => by
  simp only [VRel] at ro ri; subst ro; obtain ⟨t, rfl⟩ := ri
  obtain ⟨items, pl, rvs⟩ := R.objs _ hl
  obtain ⟨w, hw, rw⟩ := rvs.get hx
  have hlt := (List.getElem?_eq_some_iff.mp hx).1
  exact ⟨_, _, slot_list_getitem.lookup, (PlainList.isList pl).typeIs, wpAny_getItem_list (PlainList.isList pl) h0 (by omega) (by simpa using hw) (post_id R rw q)⟩
theorem gs_list {l : Addr} {vs : List V} {lo hi st : Option Int} (hl : (l, AO.list vs) ∈ H) (h0 : st ≠ some 0) (hz : vs.length ≤ 1000000) (q : ∀ a, Q (.ref a) ((a, .list (pySlice vs lo hi st)) :: H)) : GS C A (.ref l) lo hi st Q H := fun o sl vl vu vst s ro hs p1 p2 p3 R => by
  simp only [VRel] at ro; subst ro
  obtain ⟨items, pl, rvs⟩ := R.objs _ hl
  have hlen := rvs.length
  refine ⟨_, _, slot_list_getitem.lookup, (PlainList.isList pl).typeIs, wpAny_getItem_list_slice (PlainList.isList pl) hs p1 p2 p3 h0 ?_ (by rw [← Array.length_toList, hlen, sizeLine_eq]; omega)⟩
  have ext : ∀ b o, s.heap.get? b = some o → (s.heap.push { cls := .type "list", data := .seq (slicePick items lo hi st) }).get? b = some o := fun b o e => Heap.get?_push_of_some _ e
  refine ⟨_, _, q _, rfl, R.add (t := s.toks) ext (Nat.le_refl _) ⟨_, ⟨0, Heap.get?_push_size _ rfl⟩, ?_⟩, kept_add (t := s.toks) ext (Nat.le_refl _)⟩
  have := (filterMap_rel (rvs.fz (fz_of_ext ext)) (sliceRange (sliceBounds lo hi st vs.length).1 (sliceBounds lo hi st vs.length).2.1 (sliceBounds lo hi st vs.length).2.2))
  have e : (slicePick items lo hi st).toList = (sliceRange (sliceBounds lo hi st vs.length).1 (sliceBounds lo hi st vs.length).2.1 (sliceBounds lo hi st vs.length).2.2).filterMap (items.toList[·]?) := by
    unfold slicePick
    rw [← hlen]; simp
  rw [e]
  exact this
end
end
noncomputable section
theorem intBits_le {a : Int} {k : Nat} (h : a.natAbs < 2 ^ k) : Builtin.Int.intBits a ≤ k := by
  unfold Builtin.Int.intBits
  split
  · exact Nat.zero_le _
  · rename_i h0
    have h1 : a.natAbs ≠ 0 := by simpa using h0
    exact (Nat.log2_lt h1).mpr h
theorem mulOk {a b : Int} {k l : Nat} (ha : a.natAbs < 2 ^ k) (hb : b.natAbs < 2 ^ l) (h : k + l ≤ 100000) : IntMulOk a b := by
  have h1 := intBits_le ha
  have h2 := intBits_le hb
  unfold IntMulOk Builtin.Int.intTooBig bitsLine
  simp
  intro _ _
  lia

section
variable {C C' : Cfg} {gl : List (Str × V)} {A : Around} {env : Env} {pos tpos : Pos} {H H' : AH} {Q : V → AH → Prop} {QF : Fl → AH → Prop} {QB : Bool → AH → Prop} {QU : Unit → AH → Prop}

theorem op_sub_int {a : Int} {b : Int} (q : Q (.int (a - b)) H) : Op2 C A (VRel C.X) (binaryOp .Sub) (.int a) (.int b) Q H := fun v w s hv hw R => by
  simp only [VRel] at hv hw; obtain ⟨t, rfl⟩ := hv; obtain ⟨u, rfl⟩ := hw
  exact PyProof.Rows.sub_int (post_tk (s := s) (x := V.int (a - b)) R ⟨_, rfl⟩ q)
theorem op_mul_int {a : Int} {b : Int} (hm : IntMulOk a b) (q : Q (.int (a * b)) H) : Op2 C A (VRel C.X) (binaryOp .Mult) (.int a) (.int b) Q H := fun v w s hv hw R => by
  simp only [VRel] at hv hw; obtain ⟨t, rfl⟩ := hv; obtain ⟨u, rfl⟩ := hw
  exact mul_int (hm := hm) (post_tk (s := s) (x := V.int (a * b)) R ⟨_, rfl⟩ q)
theorem op_floordiv_int {a : Int} {b : Int} (hb : b ≠ 0) (hp : Builtin.divisionGoesByPylong a b = false) (q : Q (.int (a.fdiv b)) H) : Op2 C A (VRel C.X) (binaryOp .FloorDiv) (.int a) (.int b) Q H := fun v w s hv hw R => by
  simp only [VRel] at hv hw; obtain ⟨t, rfl⟩ := hv; obtain ⟨u, rfl⟩ := hw
  exact floordiv_int (hp := .inl hp) hb (post_tk (s := s) (x := V.int (a.fdiv b)) R ⟨_, rfl⟩ q)
theorem op_mod_int {a : Int} {b : Int} (hb : b ≠ 0) (q : Q (.int (a.fmod b)) H) : Op2 C A (VRel C.X) (binaryOp .Mod) (.int a) (.int b) Q H := fun v w s hv hw R => by
  simp only [VRel] at hv hw; obtain ⟨t, rfl⟩ := hv; obtain ⟨u, rfl⟩ := hw
  exact PyProof.Rows.mod_int hb (post_tk (s := s) (x := V.int (a.fmod b)) R ⟨_, rfl⟩ q)
theorem op_rshift_int {a : Int} {b : Int} (hb : 0 ≤ b) (q : Q (.int (a.fdiv (2 ^ b.toNat))) H) : Op2 C A (VRel C.X) (binaryOp .RShift) (.int a) (.int b) Q H := fun v w s hv hw R => by
  simp only [VRel] at hv hw; obtain ⟨t, rfl⟩ := hv; obtain ⟨u, rfl⟩ := hw
  exact rshift_int hb (post_tk (s := s) (x := V.int (a.fdiv (2 ^ b.toNat))) R ⟨_, rfl⟩ q)
theorem op_lshift_int {a : Int} {b : Int} (hb : 0 ≤ b) (hz : (Builtin.Int.intBits a : Int) + b ≤ 2 ^ 27) (q : Q (.int (a * 2 ^ b.toNat)) H) : Op2 C A (VRel C.X) (binaryOp .LShift) (.int a) (.int b) Q H := fun v w s hv hw R => by
  simp only [VRel] at hv hw; obtain ⟨t, rfl⟩ := hv; obtain ⟨u, rfl⟩ := hw
  exact lshift_int hb hz (post_tk (s := s) (x := V.int (a * 2 ^ b.toNat)) R ⟨_, rfl⟩ q)
theorem op_xor_int {a : Int} {b : Int} (q : Q (.int (Builtin.bitXor a b)) H) : Op2 C A (VRel C.X) (binaryOp .BitXor) (.int a) (.int b) Q H := fun v w s hv hw R => by
  simp only [VRel] at hv hw; obtain ⟨t, rfl⟩ := hv; obtain ⟨u, rfl⟩ := hw
  exact xor_int (post_tk (s := s) (x := V.int (Builtin.bitXor a b)) R ⟨_, rfl⟩ q)
theorem iop_add_int {a : Int} {b : Int} (q : Q (.int (a + b)) H) : Op2 C A (VRel C.X) (inplaceOp .Add) (.int a) (.int b) Q H := fun v w s hv hw R => by
  simp only [VRel] at hv hw; obtain ⟨t, rfl⟩ := hv; obtain ⟨u, rfl⟩ := hw
  exact iadd_int (post_tk (s := s) (x := V.int (a + b)) R ⟨_, rfl⟩ q)
theorem op_pow_int {a : Int} {b : Int} (hb : 0 ≤ b) (hz : (Builtin.Int.intBits a : Int) * b ≤ 2 ^ 27) (q : Q (.int (a ^ b.toNat)) H) : Op2 C A (VRel C.X) (binaryOp .Pow) (.int a) (.int b) Q H := fun v w s hv hw R => by
  simp only [VRel] at hv hw; obtain ⟨t, rfl⟩ := hv; obtain ⟨u, rfl⟩ := hw
  exact PyProof.Rows.pow_int hb hz (post_tk (s := s) (x := V.int (a ^ b.toNat)) R ⟨_, rfl⟩ q)
theorem op_lt_int {a : Int} {b : Int} (q : Q (.bool (decide (a < b))) H) : Op2 C A (VRel C.X) (compareOp .Lt) (.int a) (.int b) Q H := fun v w s hv hw R => by
  simp only [VRel] at hv hw; obtain ⟨t, rfl⟩ := hv; obtain ⟨u, rfl⟩ := hw
  exact PyProof.Rows.lt_int (post_id (x := V.bool (decide (a < b))) R rfl q)
theorem op_gt_int {a : Int} {b : Int} (q : Q (.bool (decide (b < a))) H) : Op2 C A (VRel C.X) (compareOp .Gt) (.int a) (.int b) Q H := fun v w s hv hw R => by
  simp only [VRel] at hv hw; obtain ⟨t, rfl⟩ := hv; obtain ⟨u, rfl⟩ := hw
  exact PyProof.Rows.gt_int (post_id (x := V.bool (decide (b < a))) R rfl q)
theorem op_eq_int {a : Int} {b : Int} (q : Q (.bool (a == b)) H) : Op2 C A (VRel C.X) (compareOp .Eq) (.int a) (.int b) Q H := fun v w s hv hw R => by
  simp only [VRel] at hv hw; obtain ⟨t, rfl⟩ := hv; obtain ⟨u, rfl⟩ := hw
  exact PyProof.Rows.eq_int (post_id (x := V.bool (a == b)) R rfl q)
theorem op_le_int {a : Int} {b : Int} (q : Q (.bool (decide (a ≤ b))) H) : Op2 C A (VRel C.X) (compareOp .LtE) (.int a) (.int b) Q H := fun v w s hv hw R => by
  simp only [VRel] at hv hw; obtain ⟨t, rfl⟩ := hv; obtain ⟨u, rfl⟩ := hw
  exact PyProof.Rows.le_int (post_id (x := V.bool (decide (a ≤ b))) R rfl q)
theorem op_eq_str {a : Str} {b : Str} (q : Q (.bool (a == b)) H) : Op2 C A (VRel C.X) (compareOp .Eq) (.str a) (.str b) Q H := fun v w s hv hw R => by
  simp only [VRel] at hv hw; obtain ⟨t, rfl⟩ := hv; obtain ⟨u, rfl⟩ := hw
  exact PyProof.Rows.eq_str (post_id (x := V.bool (a == b)) R rfl q)
theorem op_in_str {a : Str} {b : Str} (q : Q (.bool (!(Builtin.Str.occurrences b a 0 b.length 1).isEmpty)) H) : Op2 C A (VRel C.X) (compareOp .In) (.str a) (.str b) Q H := fun v w s hv hw R => by
  simp only [VRel] at hv hw; obtain ⟨t, rfl⟩ := hv; obtain ⟨u, rfl⟩ := hw
  exact PyProof.Rows.in_str (post_id (x := V.bool (!(Builtin.Str.occurrences b a 0 b.length 1).isEmpty)) R rfl q)
theorem op_add_str {a b : Str} (hz : a.length + b.length ≤ 100000) (q : Q (.str (a ++ b)) H) : Op2 C A (VRel C.X) (binaryOp .Add) (.str a) (.str b) Q H := fun v w s hv hw R => by
  simp only [VRel] at hv hw; obtain ⟨t, rfl⟩ := hv; obtain ⟨u, rfl⟩ := hw
  exact PyProof.Rows.add_str (fun t' tk => post_tk (s := s) (x := V.str _) R ⟨_, rfl⟩ q) (by rw [sizeLine_eq]; lia)
theorem iop_add_str {a b : Str} (hz : a.length + b.length ≤ 100000) (q : Q (.str (a ++ b)) H) : Op2 C A (VRel C.X) (inplaceOp .Add) (.str a) (.str b) Q H := fun v w s hv hw R => by
  simp only [VRel] at hv hw; obtain ⟨t, rfl⟩ := hv; obtain ⟨u, rfl⟩ := hw
  exact PyProof.Rows.iadd_str (fun t' tk => post_tk (s := s) (x := V.str _) R ⟨_, rfl⟩ q) (by rw [sizeLine_eq]; lia)
theorem op_add_bytes {a b : Array UInt8} (hz : a.size + b.size ≤ 100000) (q : Q (.bytes (a ++ b)) H) : Op2 C A (VRel C.X) (binaryOp .Add) (.bytes a) (.bytes b) Q H := fun v w s hv hw R => by
  simp only [VRel] at hv hw; obtain ⟨t, rfl⟩ := hv; obtain ⟨u, rfl⟩ := hw
  exact PySem.W.KBy.add_bytes (by lia) (fun t' tk => post_tk (s := s) (x := V.bytes _) R ⟨_, rfl⟩ q)
theorem op_neg_int {a : Int} (q : Q (.int (-a)) H) : Op1 C A (VRel C.X) (unaryOp .USub) (.int a) Q H := fun v s hv R => by
  simp only [VRel] at hv; obtain ⟨t, rfl⟩ := hv
  exact PyProof.Rows.neg_int (post_tk (s := s) (x := V.int _) R ⟨_, rfl⟩ q)
theorem op_inv_int {a : Int} (q : Q (.int (Builtin.bitNot a)) H) : Op1 C A (VRel C.X) (unaryOp .Invert) (.int a) Q H := fun v s hv R => by
  simp only [VRel] at hv; obtain ⟨t, rfl⟩ := hv
  exact PyProof.Rows.invert_int (post_tk (s := s) (x := V.int _) R ⟨_, rfl⟩ q)
-- truth
theorem tr_bool {b : Bool} (q : QB b H) : Op1 C A BRel truthy (.bool b) QB H := fun v s hv R => by
  simp only [VRel] at hv; subst hv
  exact wpAny_truthy_bool (post_id R rfl q)
theorem tr_int {a : Int} (q : QB (a != 0) H) : Op1 C A BRel truthy (.int a) QB H := fun v s hv R => by
  simp only [VRel] at hv; obtain ⟨t, rfl⟩ := hv
  exact PyProof.Rows.truthy_int (post_id R rfl q)
theorem tr_str {a : Str} (hz : a.length ≤ 100000) (q : QB ((a.length : Int) != 0) H) : Op1 C A BRel truthy (.str a) QB H := fun v s hv R => by
  simp only [VRel] at hv; obtain ⟨t, rfl⟩ := hv
  exact PySem.P.truthy_str (by lia) (post_tk (s := s) R rfl q)
theorem tr_list {l : Addr} {vs : List V} (hl : (l, AO.list vs) ∈ H) (hz : vs.length ≤ 100000) (q : QB (decide (0 < vs.length)) H) : Op1 C A BRel truthy (.ref l) QB H := fun v s hv R => by
  simp only [VRel] at hv; subst hv
  obtain ⟨items, pl, rvs⟩ := R.objs _ hl
  have hlen := rvs.length
  refine wpAny_truthy_list (PlainList.isList pl) (by rw [← Array.length_toList, hlen]; lia) ?_
  have e : (!items.isEmpty) = decide (0 < vs.length) := by
    rw [← hlen, Array.length_toList]
    cases h : items.size with
    | zero => simp [Array.isEmpty, h]
    | succ n => simp [Array.isEmpty, h]
  rw [e]
  exact post_tk (s := s) R rfl q
end
end
noncomputable section
theorem keeps_nr {M : Model} {A : Around} {fv : Value} {s : Shared} (h : ∀ a, fv ≠ .ref a) : KeepsOk M A fv s := ⟨.machine, fun Q q => by
  unfold keeperOf
  cases fv with
  | ref a => exact absurd rfl (h a)
  | _ => exact wpAny_pure q⟩

theorem strsAre_of {X : List Addr} {h : Heap} : ∀ {ys : List Str} {vs : List Value}, VsRel X h (ys.map V.str) vs → StrsAre vs ys
  | [], vs, r => by simp only [List.map_nil, VsRel] at r; subst r; exact .nil
  | y :: ys, vs, r => by
    simp only [List.map_cons, VsRel, VRel] at r
    obtain ⟨v, l, rfl, ⟨t, rfl⟩, r⟩ := r
    exact .cons y t (strsAre_of r)

theorem upd_plain {h : Heap} {l : Addr} {items : Array Value} {n : Nat} (f : Array Value → Array Value) (e : h.get? l = some { cls := .type "list", data := .seq items n }) :
    (h.update l (Obj.mapSeq f)).PlainList l (f items) ∧ Heap.SameBut l h (h.update l (Obj.mapSeq f)) := by
  obtain ⟨n', hd'⟩ : ∃ n', Obj.mapSeq f { cls := .type "list", data := .seq items n } = { cls := .type "list", data := .seq (f items) n' } := ⟨_, rfl⟩
  exact ⟨⟨n', by rw [Heap.get?_update_self _ e (by rw [hd']; rfl), hd']⟩, Heap.SameBut.update ..⟩

section
variable {C C' : Cfg} {gl : List (Str × V)} {A : Around} {env : Env} {pos tpos : Pos} {H H' : AH} {Q : V → AH → Prop} {QF : Fl → AH → Prop} {QB : Bool → AH → Prop} {QU : Unit → AH → Prop}
variable {QM : V → List V → AH → Prop}

noncomputable def CallB (C : Cfg) (A : Around) (fv : Value) (args : List V) (Q : V → AH → Prop) (H : AH) : Prop :=
  ∀ avs s, VsRel C.X s.heap args avs → Rel C H s → wpAny (model C.prog C.w) A (call fv avs) (Post C (VRel C.X) Q H s) NoE s
theorem wpc_bi {id : String} {args : List V} (h : CallB C A (.builtin id) args Q H) : WPC C A (.bi id) args Q H := fun fv avs s r ra R => by
  simp only [VRel] at r; subst r
  exact ⟨keeps_nr fun _ e => (nomatch e), h avs s ra R⟩
theorem wpc_ty {id : String} {args : List V} (h : CallB C A (.type id) args Q H) : WPC C A (.ty id) args Q H := fun fv avs s r ra R => by
  simp only [VRel] at r; subst r
  exact ⟨keeps_nr fun _ e => (nomatch e), h avs s ra R⟩

theorem rel1 {X : List Addr} {h : Heap} {x : V} {avs : List Value} (r : VsRel X h [x] avs) : ∃ v, avs = [v] ∧ VRel X h x v := by
  simp only [VsRel] at r
  obtain ⟨v, l, rfl, r, rfl⟩ := r
  exact ⟨v, rfl, r⟩
theorem rel2 {X : List Addr} {h : Heap} {x y : V} {avs : List Value} (r : VsRel X h [x, y] avs) : ∃ v w, avs = [v, w] ∧ VRel X h x v ∧ VRel X h y w := by
  simp only [VsRel] at r
  obtain ⟨v, l, rfl, r, w, l, rfl, r2, rfl⟩ := r
  exact ⟨v, w, rfl, r, r2⟩

-- methods
theorem wpm_list {l : Addr} {vs : List V} {name : Str} {id : String} (slot : Slot "list" name id) (ty : typeOf (.builtin id) = pure (.type "method_descriptor")) (hl : (l, AO.list vs) ∈ H) (q : QM (.bi id) [.ref l] H) :
    WPM C A (.ref l) name QM H := fun pl v s r R => by
  simp only [VRel] at r; subst r
  obtain ⟨items, pln, rvs⟩ := R.objs _ hl
  obtain ⟨n, e⟩ := pln
  exact getMethod_builtin ⟨_, e, rfl⟩ F.plainAttrs_list slot ty (fun a ha => by cases ha; exact ⟨_, e, rfl⟩) (post_id (x := (V.bi id, [V.ref l])) R ⟨rfl, .cons rfl .nil⟩ q)
theorem wpm_append {l : Addr} {vs : List V} (hl : (l, AO.list vs) ∈ H) (q : QM (.bi "list.append") [.ref l] H) : WPM C A (.ref l) "append" QM H := wpm_list slot_list_append type_list_append hl q
theorem wpm_pop {l : Addr} {vs : List V} (hl : (l, AO.list vs) ∈ H) (q : QM (.bi "list.pop") [.ref l] H) : WPM C A (.ref l) "pop" QM H := wpm_list F.slot_list_pop F.type_list_pop hl q
theorem wpm_reverse {l : Addr} {vs : List V} (hl : (l, AO.list vs) ∈ H) (q : QM (.bi "list.reverse") [.ref l] H) : WPM C A (.ref l) "reverse" QM H := wpm_list F.slot_list_reverse F.type_list_reverse hl q
theorem wpm_extend {l : Addr} {vs : List V} (hl : (l, AO.list vs) ∈ H) (q : QM (.bi "list.extend") [.ref l] H) : WPM C A (.ref l) "extend" QM H := wpm_list F.slot_list_extend F.type_list_extend hl q
theorem wpm_bitlen {i : Int} (q : QM (.bi "int.bit_length") [.int i] H) : WPM C A (.int i) "bit_length" QM H := fun pl v s r R => by
  simp only [VRel] at r; obtain ⟨t, rfl⟩ := r
  exact getMethod_int_bit_length (post_id (x := (V.bi "int.bit_length", [V.int i])) R ⟨rfl, .cons ⟨t, rfl⟩ .nil⟩ q)
theorem wpm_join {x : Str} (q : QM (.bi "str.join") [.str x] H) : WPM C A (.str x) "join" QM H := fun pl v s r R => by
  simp only [VRel] at r; obtain ⟨t, rfl⟩ := r
  exact GM.join (post_id (x := (V.bi "str.join", [V.str x])) R ⟨rfl, .cons ⟨t, rfl⟩ .nil⟩ q)
theorem wpm_scount {x : Str} (q : QM (.bi "str.count") [.str x] H) : WPM C A (.str x) "count" QM H := fun pl v s r R => by
  simp only [VRel] at r; obtain ⟨t, rfl⟩ := r
  exact GM.count (post_id (x := (V.bi "str.count", [V.str x])) R ⟨rfl, .cons ⟨t, rfl⟩ .nil⟩ q)

theorem Rel.list_fz {s : Shared} {l : Addr} {vs : List V} {h' : Heap} (R : Rel C H s) (hl : (l, AO.list vs) ∈ H) (hs : Heap.SameBut l s.heap h') : Fz C.X s.heap h' :=
  fun a o e f => hs.extBut a o (fun q => R.notin e f (q ▸ List.mem_map_of_mem (f := Prod.fst) hl)) e

theorem c_append {l : Addr} {vs : List V} {x : V} (hu : Upd l (.list vs) (.list (vs ++ [x])) H H') (hz : vs.length ≤ 100000) (q : Q .none H') : WPC C A (.bi "list.append") [.ref l, x] Q H := wpc_bi fun avs s ra R => by
  obtain ⟨v, w, rfl, r1, r2⟩ := rel2 ra
  simp only [VRel] at r1; subst r1
  obtain ⟨items, pl, rvs⟩ := R.objs _ hu.mem
  have hlen := rvs.length
  refine wpAny_list_append_plain pl (fun h' pl' hs => ?_) (by rw [← Array.length_toList, hlen, sizeLine_eq]; lia)
  have hf := R.list_fz hu.mem hs
  obtain ⟨R', k'⟩ := R.upd hu (h' := h') (t := s.toks) (fun b o n e => hs.extBut b o n e) ⟨_, pl', by rw [Array.toList_push]; exact (rvs.fz hf).append (.cons (r2.fz hf) .nil)⟩
  exact ⟨.none, H', q, rfl, R', k'⟩
theorem c_pop0 {l : Addr} {vs : List V} {x : V} (hu : Upd l (.list (x :: vs)) (.list vs) H H') (hz : vs.length ≤ 100000) (q : Q x H') : WPC C A (.bi "list.pop") [.ref l, .int 0] Q H := wpc_bi fun avs s ra R => by
  obtain ⟨v, w, rfl, r1, r2⟩ := rel2 ra
  simp only [VRel] at r1 r2; subst r1; obtain ⟨t, rfl⟩ := r2
  obtain ⟨items, ⟨n, e⟩, rvs⟩ := R.objs _ hu.mem
  have hlen := rvs.length
  have hsz : items.size = vs.length + 1 := by rw [← Array.length_toList, hlen]; rfl
  obtain ⟨y, hy, ry⟩ := rvs.get (i := 0) (u := x) rfl
  refine call_meets F.slot_list_pop ⟨_, e, rfl⟩ F.entry_list_pop (F.args_list_pop_2 _ _) (MeetsSeq.list_pop_at l items n 0 t 0 y (fitsIndex_of (by decide) (by decide)) (by unfold seqIndex?; simp [hsz]) (by simpa using hy) (by rw [hsz, sizeLine_eq]; lia)) ⟨e, ?_⟩
  obtain ⟨pl', hs⟩ := upd_plain (fun xs => xs.eraseIdxIfInBounds 0) e
  have hf := R.list_fz hu.mem hs
  have he : (items.eraseIdxIfInBounds 0).toList = items.toList.tail := by
    have : 0 < items.size := by lia
    simp [Array.eraseIdxIfInBounds, this]
  obtain ⟨R', k'⟩ := R.upd hu (h' := _) (t := s.toks) (fun b o n e => hs.extBut b o n e) ⟨_, pl', by
    rw [he]
    have := rvs.fz hf
    simp only [VsRel] at this
    obtain ⟨v, l, e1, _, r⟩ := this
    rw [e1]; exact r⟩
  exact ⟨x, H', q, ry.fz hf, R', k'⟩
theorem c_reverse {l : Addr} {vs : List V} (hu : Upd l (.list vs) (.list vs.reverse) H H') (hz : vs.length ≤ 100000) (q : Q .none H') : WPC C A (.bi "list.reverse") [.ref l] Q H := wpc_bi fun avs s ra R => by
  obtain ⟨v, rfl, r1⟩ := rel1 ra
  simp only [VRel] at r1; subst r1
  obtain ⟨items, ⟨n, e⟩, rvs⟩ := R.objs _ hu.mem
  have hlen := rvs.length
  refine call_meets F.slot_list_reverse ⟨_, e, rfl⟩ F.entry_list_reverse (F.args_list_reverse_1 _) (AutoSeq1.list_reverse_list_0 l items n (by rw [← Array.length_toList, hlen, sizeLine_eq]; lia)) ⟨e, ?_⟩
  obtain ⟨pl', hs⟩ := upd_plain (fun xs => xs.reverse) e
  have hf := R.list_fz hu.mem hs
  obtain ⟨R', k'⟩ := R.upd hu (h' := _) (t := s.toks) (fun b o n e => hs.extBut b o n e) ⟨_, pl', by
    rw [Array.toList_reverse]
    refine VsRel.of_get (by simp [hlen]) fun i u hu' => ?_
    have hi : i < vs.length := by
      have := (List.getElem?_eq_some_iff.mp hu').1; simpa using this
    rw [List.getElem?_reverse hi] at hu'
    obtain ⟨v, hv, rv⟩ := (rvs.fz hf).get hu'
    exact ⟨v, by rw [List.getElem?_reverse (by rw [hlen]; exact hi), hlen]; exact hv, rv⟩⟩
  exact ⟨.none, H', q, rfl, R', k'⟩
theorem c_extend {l m : Addr} {vs us : List V} (hu : Upd l (.list vs) (.list (vs ++ us)) H H') (hm : (m, AO.list us) ∈ H) (hz : vs.length + us.length ≤ 100000) (q : Q .none H') : WPC C A (.bi "list.extend") [.ref l, .ref m] Q H := wpc_bi fun avs s ra R => by
  obtain ⟨v, w, rfl, r1, r2⟩ := rel2 ra
  simp only [VRel] at r1 r2; subst r1 r2
  obtain ⟨items, ⟨n, e⟩, rvs⟩ := R.objs _ hu.mem
  obtain ⟨items2, ⟨n2, e2⟩, rvs2⟩ := R.objs _ hm
  have hlen := rvs.length
  have hlen2 := rvs2.length
  simp only [Array.length_toList] at hlen hlen2
  have h0 : Builtin.List.listTooLong (items.size + items2.size) = false := by
    unfold Builtin.List.listTooLong
    rw [sizeLine_eq]
    simp; lia
  refine call_meets F.slot_list_extend ⟨_, e, rfl⟩ F.entry_list_extend (F.args_list_extend_2 _ _) (AutoSeq1.list_extend_list_list_0 l items n m items2 n2 (by rw [h0]; simp) (by rw [sizeLine_eq]; lia) (by rw [sizeLine_eq]; lia)) ⟨e, e2, ?_⟩
  obtain ⟨pl', hs⟩ := upd_plain (fun xs => xs ++ items2) e
  have hf := R.list_fz hu.mem hs
  obtain ⟨R', k'⟩ := R.upd hu (h' := _) (t := s.toks) (fun b o n e => hs.extBut b o n e) ⟨_, pl', by
    rw [Array.toList_append]; exact (rvs.fz hf).append (rvs2.fz hf)⟩
  exact ⟨.none, H', q, rfl, R', k'⟩

-- builtins
theorem c_bitlen {i : Int} (q : Q (.int (Builtin.Int.intBits i : Nat)) H) : WPC C A (.bi "int.bit_length") [.int i] Q H := wpc_bi fun avs s ra R => by
  obtain ⟨v, rfl, r1⟩ := rel1 ra
  simp only [VRel] at r1; obtain ⟨t, rfl⟩ := r1
  exact call_int_bit_length (post_tk (s := s) (x := V.int _) R ⟨_, rfl⟩ q)
theorem c_len_list {l : Addr} {vs : List V} (hl : (l, AO.list vs) ∈ H) (hz : vs.length ≤ 100000) (q : Q (.int (vs.length : Nat)) H) : WPC C A (.bi "len") [.ref l] Q H := wpc_bi fun avs s ra R => by
  obtain ⟨v, rfl, r1⟩ := rel1 ra
  simp only [VRel] at r1; subst r1
  obtain ⟨items, pl, rvs⟩ := R.objs _ hl
  have hlen := rvs.length
  simp only [Array.length_toList] at hlen
  exact Calls.call_len_list (PlainList.isList pl) (by lia) (post_tk (s := s) (x := V.int _) R (by rw [hlen]; exact ⟨_, rfl⟩) q)
theorem c_abs {i : Int} (q : Q (.int i.natAbs) H) : WPC C A (.bi "abs") [.int i] Q H := wpc_bi fun avs s ra R => by
  obtain ⟨v, rfl, r1⟩ := rel1 ra
  simp only [VRel] at r1; obtain ⟨t, rfl⟩ := r1
  refine call_abs_int fun u tk => post_tk (s := s) (x := V.int _) R ?_ q
  have : (i.natAbs : Int) = if i < 0 then -i else i := by split <;> lia
  rw [this]; exact ⟨_, rfl⟩
theorem c_int {i : Int} (q : Q (.int i) H) : WPC C A (.ty "int") [.int i] Q H := wpc_ty fun avs s ra R => by
  obtain ⟨v, rfl, r1⟩ := rel1 ra
  simp only [VRel] at r1; obtain ⟨t, rfl⟩ := r1
  exact call_int_int (post_id (x := V.int i) R ⟨_, rfl⟩ q)
theorem c_divmod {a b : Int} (hb : b ≠ 0) (hp : Builtin.divisionGoesByPylong a b = false) (q : Q (.tup [.int (a.fdiv b), .int (a.fmod b)]) H) : WPC C A (.bi "divmod") [.int a, .int b] Q H := wpc_bi fun avs s ra R => by
  obtain ⟨v, w, rfl, r1, r2⟩ := rel2 ra
  simp only [VRel] at r1 r2; obtain ⟨t, rfl⟩ := r1; obtain ⟨u, rfl⟩ := r2
  refine divmod_int hb ?_ (.inl hp)
  refine post_ext (s := s) (x := V.tup [.int (a.fdiv b), .int (a.fmod b)]) R (fun b o e => Heap.get?_push_of_some _ e) ?_ q
  simp only [VRel]
  exact ⟨_, _, rfl, fun hX => let ⟨_, o, e⟩ := R.xl _ hX; Nat.lt_irrefl _ (Heap.lt_size e), ⟨_, Heap.get?_push_size _ rfl, rfl, 0, rfl⟩, .cons ⟨_, rfl⟩ (.cons ⟨_, rfl⟩ .nil)⟩
theorem c_chr {i : Int} (h0 : 0 ≤ i) (h1 : i ≤ 1114111) (q : Q (.str ⟨#[i.toNat]⟩) H) : WPC C A (.bi "chr") [.int i] Q H := wpc_bi fun avs s ra R => by
  obtain ⟨v, rfl, r1⟩ := rel1 ra
  simp only [VRel] at r1; obtain ⟨t, rfl⟩ := r1
  exact chr_of_range h0 h1 (post_tk (s := s) (x := V.str _) R ⟨_, rfl⟩ q)
theorem c_ord {c : Nat} (q : Q (.int c) H) : WPC C A (.bi "ord") [.str ⟨#[c]⟩] Q H := wpc_bi fun avs s ra R => by
  obtain ⟨v, rfl, r1⟩ := rel1 ra
  simp only [VRel] at r1; obtain ⟨t, rfl⟩ := r1
  exact P.ord_of_char (post_tk (s := s) (x := V.int _) R ⟨_, rfl⟩ q)
theorem c_join {l : Addr} {x : Str} {ys : List Str} (hl : (l, AO.list (ys.map V.str)) ∈ H) (hok : (ys.map (·.length)).sum + ys.length * x.length ≤ 100000) (q : Q (.str (Txt.join x ys)) H) : WPC C A (.bi "str.join") [.str x, .ref l] Q H := wpc_bi fun avs s ra R => by
  obtain ⟨v, w, rfl, r1, r2⟩ := rel2 ra
  simp only [VRel] at r1 r2; subst r2; obtain ⟨t, rfl⟩ := r1
  obtain ⟨items, pl, rvs⟩ := R.objs _ hl
  exact join_list (PlainList.isList pl) (strsAre_of rvs) (by lia) fun t' k => post_tk (s := s) (x := V.str _) R ⟨_, rfl⟩ q
end
end
noncomputable section
section
variable {C C' : Cfg} {gl : List (Str × V)} {A : Around} {env : Env} {pos tpos : Pos} {H H' : AH} {Q : V → AH → Prop} {QF : Fl → AH → Prop} {QB : Bool → AH → Prop} {QU : Unit → AH → Prop}
variable {QM : V → List V → AH → Prop}

theorem c_list_str {x : Str} (hA : A.handled = none) (hz : x.length ≤ 100000) (q : ∀ a, Q (.ref a) ((a, .list (x.cps.toList.map fun c => V.str ⟨#[c]⟩)) :: H)) : WPC C A (.ty "list") [.str x] Q H := wpc_ty fun avs s ra R => by
  obtain ⟨v, rfl, r1⟩ := rel1 ra
  simp only [VRel] at r1; obtain ⟨t, rfl⟩ := r1
  refine call_list_str hA x t (fun h' tk acc c ext e hit => ?_) (by rw [sizeLine_eq]; have : x.cps.size = x.length := rfl; lia)
  refine ⟨_, _, q _, rfl, R.add ext (Nat.le_refl _) ⟨acc, ⟨c, e⟩, ?_⟩, kept_add ext (Nat.le_refl _)⟩
  refine VsRel.of_get (by simp [hit.1]) fun i u hu => ?_
  rw [List.getElem?_map] at hu
  obtain ⟨k, hk, rfl⟩ := Option.map_eq_some_iff.mp hu
  have hlt := (List.getElem?_eq_some_iff.mp hk).1
  have hlt' : i < acc.size := by rw [hit.1]; simpa using hlt
  obtain ⟨c', u', hc, hv⟩ := hit.2 i acc[i] (Array.getElem?_eq_getElem hlt')
  refine ⟨acc[i], by simp [hlt'], ?_⟩
  simp only [VRel]
  have : c' = k := by
    have h1 : x.cps.toList[i]? = some c' := by simpa using hc
    rw [hk] at h1; exact (Option.some.inj h1).symm
  rw [hv, this]; exact ⟨u', rfl⟩

theorem c_scount {x y : Str} (q : Q (.int (Builtin.Str.occurrences x y 0 x.length (x.length + 1)).length) H) : WPC C A (.bi "str.count") [.str x, .str y] Q H := wpc_bi fun avs s ra R => by
  obtain ⟨v, w, rfl, r1, r2⟩ := rel2 ra
  simp only [VRel] at r1 r2; obtain ⟨t, rfl⟩ := r1; obtain ⟨u, rfl⟩ := r2
  exact call_meets F.slot_str_count (typeIs_str s x t) F.entry_str_count (F.args_str_count_2 _ _) (gives_str_count x y t u).meets (post_tk (s := s) (x := V.int _) R ⟨_, rfl⟩ q)

theorem op_add_list {l m : Addr} {vs us : List V} (hl : (l, AO.list vs) ∈ H) (hm : (m, AO.list us) ∈ H) (hz : vs.length + us.length ≤ 100000) (q : ∀ a, Q (.ref a) ((a, .list (vs ++ us)) :: H)) :
    Op2 C A (VRel C.X) (binaryOp .Add) (.ref l) (.ref m) Q H := fun v w s r1 r2 R => by
  simp only [VRel] at r1 r2; subst r1 r2
  obtain ⟨items, ⟨n, e⟩, rvs⟩ := R.objs _ hl
  obtain ⟨items2, ⟨n2, e2⟩, rvs2⟩ := R.objs _ hm
  have hlen := rvs.length
  have hlen2 := rvs2.length
  simp only [Array.length_toList] at hlen hlen2
  have ext : ∀ b o, s.heap.get? b = some o → (s.heap.push { cls := .type "list", data := .seq (items ++ items2) }).get? b = some o := fun b o e => Heap.get?_push_of_some _ e
  exact P.add_list e e2 ⟨_, _, q _, rfl, R.add (t := s.toks) ext (Nat.le_refl _) ⟨_, ⟨0, Heap.get?_push_size _ rfl⟩, by rw [Array.toList_append]; exact (rvs.fz (fz_of_ext ext)).append (rvs2.fz (fz_of_ext ext))⟩, kept_add (t := s.toks) ext (Nat.le_refl _)⟩ (by rw [sizeLine_eq]; lia)

theorem foldl_app (x : Value) : ∀ (n : Nat) (acc : Array Value), (List.foldl (fun x1 x2 => x1 ++ x2) acc (List.replicate n #[x])).toList = acc.toList ++ List.replicate n x
  | 0, acc => by simp
  | n + 1, acc => by
    rw [List.replicate_succ, List.foldl_cons, foldl_app x n, List.replicate_succ]
    simp
theorem rep_rel {X : List Addr} {h : Heap} {v : V} {w : Value} (r : VRel X h v w) : ∀ n, VsRel X h (List.replicate n v) (List.replicate n w)
  | 0 => VsRel.nil
  | n + 1 => by rw [List.replicate_succ, List.replicate_succ]; exact .cons r (rep_rel r n)
theorem op_mul_list {l : Addr} {v : V} {k : Int} (hl : (l, AO.list [v]) ∈ H) (h0 : 0 ≤ k) (hz : k ≤ 100000) (q : ∀ a, Q (.ref a) ((a, .list (List.replicate k.toNat v)) :: H)) :
    Op2 C A (VRel C.X) (binaryOp .Mult) (.ref l) (.int k) Q H := fun vv w s r1 r2 R => by
  simp only [VRel] at r1 r2; subst r1; obtain ⟨u, rfl⟩ := r2
  obtain ⟨items, ⟨n, e⟩, rvs⟩ := R.objs _ hl
  simp only [VsRel] at rvs
  obtain ⟨y, l', hi, ry, rfl⟩ := rvs
  obtain rfl : items = #[y] := by cases items; simpa using hi
  refine wpAny_binaryOp_repeat_ref (T := "list") (U := "int") (by decide) ⟨_, e, rfl⟩ (fun s' => typeIs_int s' k u) noFill_list_mul F.fills_int_mul F.slot_int_rmul repeat_list F.slot_int_index.lookup
    (call_meets F.slot_int_rmul (typeIs_int s k u) F.entry_int_rmul (F.args_int_rmul_2 _ _) (int___rmul___int_list k u l #[y] n)
      ⟨e, rfl, ⟨_, e, rfl⟩, call_meets F.slot_list_mul ⟨_, e, rfl⟩ F.entry_list_mul (F.args_list_mul_2 _ _)
        (AutoListH.list___mul___list_int_3 l #[y] n k u (by simp [Builtin.List.listFitsIndex]; lia) (by simp; lia) (by simp [Builtin.List.listTooLong, sizeLine]; lia)) ⟨e, ?_⟩⟩)
  generalize hD : (List.foldl (fun x1 x2 => x1 ++ x2) #[] (List.replicate (if (#[y] : Array Value).isEmpty = true then 0 else k.toNat) #[y])) = D
  have ext : ∀ b o, s.heap.get? b = some o → (s.heap.push { cls := .type "list", data := .seq D }).get? b = some o := fun b o e => Heap.get?_push_of_some _ e
  refine ⟨_, _, q _, rfl, R.add (t := s.toks) ext (Nat.le_refl _) ⟨D, ⟨0, Heap.get?_push_size _ rfl⟩, ?_⟩, kept_add (t := s.toks) ext (Nat.le_refl _)⟩
  have hDl : D.toList = List.replicate k.toNat y := by rw [← hD, foldl_app]; simp
  rw [hDl]
  exact rep_rel (ry.fz (fz_of_ext ext)) k.toNat

-- items
theorem gi_list_neg {l : Addr} {vs : List V} {i : Int} {v : V} (hl : (l, AO.list vs) ∈ H) (h0 : i < 0) (h1 : -(vs.length : Int) ≤ i) (hx : vs[(i + vs.length).toNat]? = some v) (hz : vs.length ≤ 100000) (q : Q v H) : GI C A (.ref l) (.int i) Q H := fun o iv s ro ri R => by
  simp only [VRel] at ro ri; subst ro; obtain ⟨t, rfl⟩ := ri
  obtain ⟨items, pl, rvs⟩ := R.objs _ hl
  have hlen := rvs.length
  simp only [Array.length_toList] at hlen
  obtain ⟨w, hw, rw⟩ := rvs.get hx
  exact ⟨_, _, slot_list_getitem.lookup, (PlainList.isList pl).typeIs, wpAny_getItem_list_neg (PlainList.isList pl) h0 (by rw [hlen]; exact h1) (by lia) (by rw [hlen]; simpa using hw) (post_id R rw q)⟩
theorem gi_str {x : Str} {i : Int} {c : Nat} (h0 : 0 ≤ i) (hz : x.length ≤ 100000) (hx : x.cps.toList[i.toNat]? = some c) (q : Q (.str ⟨#[c]⟩) H) : GI C A (.str x) (.int i) Q H := fun o iv s ro ri R => by
  simp only [VRel] at ro ri; obtain ⟨u, rfl⟩ := ro; obtain ⟨t, rfl⟩ := ri
  have hlt : i.toNat < x.length := by have := (List.getElem?_eq_some_iff.mp hx).1; show i.toNat < x.cps.size; simpa using this
  have e : seqIndex? i x.length = some i.toNat := by
    unfold seqIndex?
    have hn : ¬ i < 0 := by lia
    have h1 : i < (x.length : Int) := by lia
    simp [hn, h0, h1]
  exact ⟨_, _, F.slot_str_getitem.lookup, typeIs_str _ _ _, P.getItem_str (by simp; lia) (by rw [e]; simpa using hx) (post_tk (s := s) (x := V.str _) R ⟨_, rfl⟩ q)⟩
theorem gs_bytes {b : Array UInt8} {lo hi : Option Int} (hz : b.size ≤ 100000) (q : Q (.bytes (KBy.picked b lo hi)) H) : GS C A (.bytes b) lo hi none Q H := fun o sl vl vu vst s ro hs p1 p2 p3 R => by
  simp only [VRel] at ro; obtain ⟨t, rfl⟩ := ro
  cases p3
  exact ⟨"bytes", _, FB.slot_bytes_getitem.lookup, typeIs_bytes _ _ _, getItem_meets (typeIs_bytes _ _ _) (by decide) FB.slot_bytes_getitem FB.entry_bytes_getitem (FB.args_bytes_getitem_2 _ _) (KBc.meets_slice2 b t _ p1 p2)
    ⟨hs, Nat.le_trans (KBc.size_picked_le b lo hi) (by rw [sizeLine_eq]; lia), fun t' k => post_tk (s := s) (x := V.bytes _) R ⟨_, rfl⟩ q⟩⟩
theorem IsPart.val {v : Value} {o : Option Int} (p : IsPart v o) : ∃ l : Option (Int × Tok), v = partValue l ∧ l.map (·.1) = o := by
  cases p with
  | none => exact ⟨none, rfl, rfl⟩
  | int i t => exact ⟨some (i, t), rfl, rfl⟩
theorem gs_str {x y : Str} {lo hi st : Option Int} (h0 : (st.getD 1 == 0) = false) (hz : x.length ≤ 100000) (hy : y = ⟨((Builtin.Str.strSliceIndices lo hi (st.getD 1) x.length).filterMap (x.cps[·]?)).toArray⟩) (hle : (Builtin.Str.strSliceIndices lo hi (st.getD 1) x.length).length ≤ x.length)
    (hw : (st.getD 1 == 1 && (Builtin.Str.strSliceIndices lo hi (st.getD 1) x.length).length == x.length) = true → y = x) (q : Q (.str y) H) : GS C A (.str x) lo hi st Q H := fun o sl vl vu vst s ro hs p1 p2 p3 R => by
  simp only [VRel] at ro; obtain ⟨t, rfl⟩ := ro
  obtain ⟨l1, rfl, e1⟩ := IsPart.val p1
  obtain ⟨l2, rfl, e2⟩ := IsPart.val p2
  obtain ⟨l3, rfl, e3⟩ := IsPart.val p3
  subst e1 e2 e3
  refine ⟨_, _, F.slot_str_getitem.lookup, typeIs_str _ _ _, wpAny_getItem_str_slice (l := l1) (u := l2) (st := l3) hs h0 ?_⟩
  unfold sliceMade slicePicked
  split
  · rename_i hc
    have := hw hc
    exact post_id (x := V.str y) R (by simp only [VRel]; rw [this]; exact ⟨_, rfl⟩) q
  · refine ⟨?_, post_tk (s := s) (x := V.str y) R (by simp only [VRel]; rw [hy]; exact ⟨_, rfl⟩) q⟩
    have h2 := List.length_filterMap_le (x.cps[·]?) (Builtin.Str.strSliceIndices (l1.map (·.1)) (l2.map (·.1)) ((l3.map (·.1)).getD 1) x.length)
    show (List.filterMap _ _).toArray.size ≤ sizeLine
    rw [List.size_toArray, sizeLine_eq]; lia

theorem set_list {l : Addr} {vs : List V} {i : Int} {x : V} (hu : Upd l (.list vs) (.list (vs.set i.toNat x)) H H') (h0 : 0 ≤ i) (h1 : i < vs.length) (hz : vs.length ≤ 100000) (q : QU () H') : Op3 C A URel setItem (.ref l) (.int i) x QU H := fun ov iv w s ro ri rx R => by
  simp only [VRel] at ro ri; subst ro; obtain ⟨t, rfl⟩ := ri
  obtain ⟨items, ⟨n, e⟩, rvs⟩ := R.objs _ hu.mem
  have hlen := rvs.length
  simp only [Array.length_toList] at hlen
  have hT : s.TypeIs (.ref l) "list" := ⟨_, e, rfl⟩
  unfold setItem
  try with_reducible refine wpAny_holding ?_
  first | refine wpAny_bind (wpAny_pure ?_) | skip
  refine wpAny_bind (wpAny_sequenceKey hT (by decide) ?_)
  refine wpAny_bind (wpAny_callSpecial?_slot (name := Str.ofString "__setitem__") hT slot_list_setitem
    (wpAny_call_entry slot_list_setitem hT entry_list_setitem ?_ (args_list_setitem _ _ _)))
  show wpAny _ _ (Builtin.List.listSubscript? (.int i t) >>= _) _ _ s
  refine wpAny_bind (wpAny_listSubscript_int (fitsIndex_of h0 (by lia)) ?_)
  obtain ⟨j, rfl⟩ := Int.eq_ofNat_of_zero_le h0
  have hj : j < items.size := by lia
  have hx' : items[j]? = some items[j] := Array.getElem?_eq_getElem hj
  show wpAny _ _ ((seqItemAt l j >>= fun r => pure (r.map (j, ·))) >>= _) _ _ s
  refine wpAny_bind (wpAny_bind (wpAny_seqItemAt e rfl (wpAny_pure ?_)))
  rw [hx']
  show wpAny _ _ (setSeqItemAt l j w >>= _) _ _ s
  refine wpAny_bind (wpAny_setSeqItemAt e rfl ?_)
  obtain ⟨pl', hs⟩ := upd_plain (fun xs => xs.setIfInBounds j w) e
  have hf := R.list_fz hu.mem hs
  obtain ⟨R', k'⟩ := R.upd hu (h' := _) (t := s.toks) (fun b o n e => hs.extBut b o n e) ⟨_, pl', by
    refine VsRel.of_get (by simp [hlen]) fun k u hu' => ?_
    rw [Array.toList_setIfInBounds]
    simp only [Int.toNat_natCast] at hu'
    rw [List.getElem?_set] at hu'
    rw [List.getElem?_set]
    split at hu'
    · rename_i hjk
      rw [if_pos hjk, if_pos (by simpa using hj)]
      rw [if_pos (by lia)] at hu'
      cases hu'
      exact ⟨w, rfl, rx.fz hf⟩
    · rename_i hjk
      rw [if_neg hjk]
      exact (rvs.fz hf).get hu'⟩
  have fin : Post C URel QU H s () { s with heap := s.heap.update l (Obj.mapSeq fun xs => xs.setIfInBounds j w) } := ⟨(), H', q, trivial, R', k'⟩
  first
    | exact wpAny_bind (wpAny_pure (wpAny_pure ⟨.none, rfl, wpAny_pure fin⟩))
    | exact wpAny_pure ⟨.none, rfl, wpAny_pure fin⟩

-- equality, deep
mutual
noncomputable def DRel (H : AH) : PyData → V → Prop
  | .none, v => v = .none
  | .bool b, v => v = .bool b
  | .int i, v => v = .int i
  | .str x, v => v = .str x
  | .list ds, v => ∃ a vs, v = .ref a ∧ (a, AO.list vs) ∈ H ∧ DsRel H ds vs
  | .tuple ds, v => ∃ vs, v = .tup vs ∧ DsRel H ds vs
  | .dict _, _ => False
noncomputable def DsRel (H : AH) : List PyData → List V → Prop
  | [], l => l = []
  | d :: ds, l => ∃ v r, l = v :: r ∧ DRel H d v ∧ DsRel H ds r
end
mutual
theorem DRel.reads {s : Shared} (R : Rel C H s) : ∀ {d : PyData} {v : V} {w : Value}, DRel H d v → VRel C.X s.heap v w → ∃ as, Reads s.heap w d as
  | .none, _, _, h, r => by simp only [DRel] at h; subst h; simp only [VRel] at r; subst r; exact ⟨_, .none⟩
  | .bool b, _, _, h, r => by simp only [DRel] at h; subst h; simp only [VRel] at r; subst r; exact ⟨_, .bool b⟩
  | .int b, _, _, h, r => by simp only [DRel] at h; subst h; simp only [VRel] at r; obtain ⟨t, rfl⟩ := r; exact ⟨_, .int b t⟩
  | .str b, _, _, h, r => by simp only [DRel] at h; subst h; simp only [VRel] at r; obtain ⟨t, rfl⟩ := r; exact ⟨_, .str b t⟩
  | .list ds, _, _, h, r => by
    simp only [DRel] at h
    obtain ⟨a, vs, rfl, hm, hd⟩ := h
    simp only [VRel] at r; subst r
    obtain ⟨items, ⟨n, e⟩, rvs⟩ := R.objs _ hm
    obtain ⟨as, q⟩ := DsRel.reads R hd rvs
    exact ⟨_, reads_list_at e rfl rfl q⟩
  | .tuple ds, _, _, h, r => by
    simp only [DRel] at h
    obtain ⟨vs, rfl, hd⟩ := h
    simp only [VRel] at r
    obtain ⟨a, items, rfl, _, ⟨o, e, hc, n, ho⟩, rvs⟩ := r
    obtain ⟨as, q⟩ := DsRel.reads R hd rvs
    exact ⟨_, reads_tuple_at e hc ho q⟩
  | .dict _, _, _, h, _ => by simp only [DRel] at h
theorem DsRel.reads {s : Shared} (R : Rel C H s) : ∀ {ds : List PyData} {vs : List V} {ws : List Value}, DsRel H ds vs → VsRel C.X s.heap vs ws → ∃ as, ReadsAll s.heap ws ds as
  | [], _, _, h, r => by simp only [DsRel] at h; subst h; simp only [VsRel] at r; subst r; exact ⟨_, .nil⟩
  | d :: ds, _, _, h, r => by
    simp only [DsRel] at h
    obtain ⟨v, vs, rfl, h1, h2⟩ := h
    simp only [VsRel] at r
    obtain ⟨w, ws, rfl, r1, r2⟩ := r
    obtain ⟨as, q1⟩ := DRel.reads R h1 r1
    obtain ⟨bs, q2⟩ := DsRel.reads R h2 r2
    exact ⟨_, .cons q1 q2⟩
end
theorem op_eq_data {d e : PyData} {x y : V} (hd : DRel H d x) (he : DRel H e y) (s1 : SeqAt.shaped d = true) (s2 : SeqAt.shaped e = true) (hu : A.units + 64 < cLine) (q : Q (.bool (PyData.eqv d e)) H) :
    Op2 C A (VRel C.X) (compareOp .Eq) x y Q H := fun v w s r1 r2 R => by
  obtain ⟨as, q1⟩ := hd.reads R r1
  obtain ⟨bs, q2⟩ := he.reads R r2
  exact eq_dataH q1 q2 s1 s2 hu (post_id (x := V.bool _) R rfl q)
theorem op_ne_data {d e : PyData} {x y : V} (hd : DRel H d x) (he : DRel H e y) (s1 : SeqAt.shaped d = true) (s2 : SeqAt.shaped e = true) (hu : A.units + 64 < cLine) (q : Q (.bool (!PyData.eqv d e)) H) :
    Op2 C A (VRel C.X) (compareOp .NotEq) x y Q H := fun v w s r1 r2 R => by
  obtain ⟨as, q1⟩ := hd.reads R r1
  obtain ⟨bs, q2⟩ := he.reads R r2
  exact ne_dataH q1 q2 s1 s2 hu (post_id (x := V.bool _) R rfl q)
end
end
noncomputable section
section
variable {C C' : Cfg} {gl : List (Str × V)} {A : Around} {env : Env} {pos tpos : Pos} {target : Expr} {H H' : AH} {Q : V → AH → Prop} {QF : Fl → AH → Prop} {QB : Bool → AH → Prop} {QU : Unit → AH → Prop}
variable {QM : V → List V → AH → Prop} {QI : Cfg → (Nat → AH → Option V → Prop) → AH → Prop}

-- ranges
theorem ne_add {l n : Nat} (k : Nat) (h : l < n) : l ≠ n + k := by omega
theorem ne_add' {l n : Nat} (h : l < n) : l ≠ n := by omega
theorem add_ne (n k : Nat) (h : k ≠ 0) : n + k ≠ n := by omega
theorem zip_new {n b : Nat} (h : b ∈ [n + 4, n + 2, n + 3, n, n + 1]) : n ≤ b := by simp at h; omega
theorem zip_newW {n b : Nat} (h : b ∈ [n + 4, n + 3, n, n + 1]) : n ≤ b := by simp at h; omega
theorem abs62 {x : Int} (h : x.natAbs < 2 ^ 60) : -(2 ^ 62) ≤ x ∧ x < 2 ^ 62 := by omega
theorem range_small {a b : Int} (h1 : a.natAbs < 2 ^ 60) (h2 : b.natAbs < 2 ^ 60) : Builtin.Range.small a b 1 = true := small_one (abs62 h1).1 (abs62 h1).2 (abs62 h2).1 (abs62 h2).2
theorem ci_call {fv : Value} {args : List V} (hnr : ∀ a, fv ≠ .ref a) {f : V} (hf : ∀ X h v, VRel X h f v → v = fv)
    (h : ∀ avs s, VsRel C.X s.heap args avs → Rel C H s → wpAny (model C.prog C.w) A (call fv avs) (fun v s₁ => wpAny (model C.prog C.w) A (pyIter v) (ItPost C A target QI H s) NoE s₁) NoE s) : CI C A target f args QI H := fun v avs s r ra R => by
  have := hf _ _ _ r; subst this
  exact ⟨keeps_nr hnr, h avs s ra R⟩
theorem ty_eq {n : String} : ∀ X h v, VRel X h (V.ty n) v → v = .type n := fun _ _ _ r => by simpa only [VRel] using r
theorem ty_nr {n : String} : ∀ a, Value.type n ≠ .ref a := fun _ e => nomatch e
theorem ci_range1 {n : Int} (hA : A.handled = none) (hn : n.natAbs < 2 ^ 60) (q : QI C (rangeItem 0 n 1) H) : CI C A target (.ty "range") [.int n] QI H := ci_call ty_nr ty_eq fun avs s ra R => by
  obtain ⟨v, rfl, r1⟩ := rel1 ra
  simp only [VRel] at r1; obtain ⟨t, rfl⟩ := r1
  refine call_range_1 ?_
  exact iter_range (s₀ := s) (t := s.toks) (u := t) (v := s.toks + 1) hA (by decide) (range_small (by decide) hn) R (fun b o e => Heap.get?_push_of_some _ e) (by rw [Heap.size_push]; exact Nat.le_succ _) ⟨_, _, rfl⟩ (Heap.get?_push_size _ rfl) q
theorem ci_range2 {a b : Int} (hA : A.handled = none) (ha : a.natAbs < 2 ^ 60) (hn : b.natAbs < 2 ^ 60) (q : QI C (rangeItem a b 1) H) : CI C A target (.ty "range") [.int a, .int b] QI H := ci_call ty_nr ty_eq fun avs s ra R => by
  obtain ⟨v, w, rfl, r1, r2⟩ := rel2 ra
  simp only [VRel] at r1 r2; obtain ⟨t, rfl⟩ := r1; obtain ⟨u, rfl⟩ := r2
  refine call_range_2 ?_
  exact iter_range (s₀ := s) (t := t) (u := u) (v := s.toks) hA (by decide) (range_small ha hn) R (fun b o e => Heap.get?_push_of_some _ e) (by rw [Heap.size_push]; exact Nat.le_succ _) ⟨_, _, rfl⟩ (Heap.get?_push_size _ rfl) q

-- a str's signs, a bytes' figures
noncomputable abbrev signItem (x : Str) := fnItem x.length (fun i => .str ⟨#[x.cps.getD i 0]⟩)
theorem pi_str {x : Str} (hA : A.handled = none) (q : QI C (signItem x) H) : PI C A target (.str x) QI H := fun v s rv R => by
  simp only [VRel] at rv; obtain ⟨t, rfl⟩ := rv
  refine wpAny_pyIter_strU ?_
  have go : ∀ (T : String) (W : Walks C.prog C.w A s.heap.objs.size [s.heap.objs.size] [s.heap.objs.size] x.cps.size (SignAt x) (fun i h => h.IsStrIter s.heap.objs.size T x t i)), T ≠ "tuple" → T ≠ "code" →
      ["enumerate", "zip", "dict_itemiterator", "dict_reverseitemiterator", "odict_iterator", "itertools.zip_longest", "itertools.pairwise"].contains T = false →
      ItPost C A target QI H s (.ref s.heap.objs.size) { s with heap := s.heap.push { cls := .type T, data := .fields #[.str x t, .int 0 0] } } := fun T W h1 h2 h3 =>
    itPost_one (tk := s.toks) R (fun _ _ e => e) (Nat.le_refl _) (src_walks (f := fun i => .str ⟨#[x.cps.getD i 0]⟩) W (fun i v h ⟨c, u, hc, hv⟩ => by
      simp only [VRel]
      have : x.cps.getD i 0 = c := by rw [Array.getD_eq_getD_getElem?, hc]; rfl
      rw [this]; exact ⟨u, hv⟩) (fun i h st => let ⟨o, e, c, d⟩ := st; ⟨o, _, e, c, d⟩) h1 h2 h3) ⟨Nat.zero_le _, ⟨_, Heap.get?_push_size _ rfl, rfl, rfl⟩⟩ q
  by_cases ha : x.cps.all (· < 128) = true
  · have e : strIterType x = "str_ascii_iterator" := by unfold strIterType; rw [if_pos ha]
    rw [e]
    exact go _ (Walks.strAscii hA _ x t) (by decide) (by decide) (by decide)
  · have e : strIterType x = "str_iterator" := by unfold strIterType; rw [if_neg ha]
    rw [e]
    exact go _ (Walks.strWide hA _ x t) (by decide) (by decide) (by decide)
noncomputable abbrev byteItem (b : Array UInt8) := fnItem b.size (fun i => .int (b.getD i 0).toNat)
theorem pi_bytes {b : Array UInt8} (hA : A.handled = none) (q : QI C (byteItem b) H) : PI C A target (.bytes b) QI H := fun v s rv R => by
  simp only [VRel] at rv; obtain ⟨t, rfl⟩ := rv
  refine KBw.pyIter_bytes ?_
  exact itPost_one (tk := s.toks) R (fun _ _ e => e) (Nat.le_refl _) (src_walks (T := "bytes_iterator") (f := fun i => .int (b.getD i 0).toNat) (KBw.walks hA _ b t) (fun i v h ⟨c, u, hc, hv⟩ => by
      simp only [VRel]
      have : b.getD i 0 = c := by rw [Array.getD_eq_getD_getElem?, hc]; rfl
      rw [this]; exact ⟨u, hv⟩) (fun i h st => let ⟨o, e, c, d⟩ := st; ⟨o, _, e, c, d⟩) (by decide) (by decide) (by decide)) ⟨Nat.zero_le _, ⟨_, Heap.get?_push_size _ rfl, rfl, rfl⟩⟩ q

-- reversed(list)
noncomputable def revItem (l : Addr) (n : Nat) : Nat → AH → Option V → Prop := fun i H r => ∃ vs, (l, AO.list vs) ∈ H ∧ vs.length = n ∧ r = vs.reverse[i]?
theorem src_rev {I l : Addr} {n : Nat} (hA : A.handled = none) (hne : l ≠ I) :
    Src C A target (.ref I) [I] [I] (fun i h => i ≤ n ∧ h.IsRevIter I l ((n : Int) - 1 - (i : Int))) (revItem l n) where
  sub := fun b h => h
  nofz := fun i h ⟨_, o, e, c, _⟩ b hb o' e' => by
    rw [List.mem_singleton.mp hb, e] at e'; cases e'; exact notFrozen_cls c (by decide) (by decide)
  live := fun i h ⟨_, o, e, _⟩ b hb => ⟨o, by rw [List.mem_singleton.mp hb]; exact e⟩
  frame := fun i h h' ⟨hi, x⟩ _ k => ⟨hi, x.at fun o e => k I (.head _) o e⟩
  self := fun i s ⟨_, h⟩ => wpAny_pyIter_revIter h ⟨rfl, rfl⟩
  item := fun i H s x ⟨hi, hit⟩ R hf ⟨vs, hm, hlen, hx⟩ => by
    obtain ⟨items, pl, rv⟩ := R.objs _ hm
    have hl := rv.length
    have hlt : i < n := by
      have := (List.getElem?_eq_some_iff.mp hx.symm).1; simpa [hlen] using this
    have hx' := hx.symm
    rw [List.getElem?_reverse (by omega)] at hx'
    obtain ⟨v, hv, rx⟩ := rv.get hx'
    have e : (n : Int) - 1 - (i : Int) = ((n - 1 - i : Nat) : Int) := by omega
    rw [e] at hit
    refine wpAny_pyNext_rev_item hit (PlainList.isList pl) (by rw [hlen] at hv; simpa using hv) fun h' hit' hs' => ⟨v, rfl, ?_⟩
    obtain ⟨o, ho, hc, hd⟩ := id hit'
    refine letGo_skip ho hc hd (by decide) ⟨h', s.toks, rfl, ?_, ⟨hlt, ?_⟩, fun b o n e => hs'.extBut b o (fun q => n (by simp [q])) e⟩
    · exact rx.fz fun a o e f => hs'.extBut a o (fun q => by
        obtain ⟨o', e', c, _⟩ := hit
        rw [q, e'] at e; cases e
        exact notFrozen_cls c (by decide) (by decide) f) e
    · have e2 : ((n - 1 - i : Nat) : Int) - 1 = (n : Int) - 1 - ((i + 1 : Nat) : Int) := by omega
      rw [e2] at hit'; exact hit'
  done := fun i H s ⟨hi, hit⟩ R hf ⟨vs, hm, hlen, hx⟩ => by
    have hge := List.getElem?_eq_none_iff.mp hx.symm
    rw [List.length_reverse, hlen] at hge
    have : (n : Int) - 1 - (i : Int) = -1 := by omega
    rw [this] at hit
    exact wpAny_pyNext_rev_end hA hit fun h' hs' => ⟨rfl, h', s.toks, rfl, fun b o n e => hs' b o (fun q => n (by simp [q])) e⟩
theorem ci_reversed {l : Addr} {vs : List V} (hA : A.handled = none) (hl : (l, AO.list vs) ∈ H) (q : QI C (revItem l vs.length) H) : CI C A target (.ty "reversed") [.ref l] QI H := ci_call ty_nr ty_eq fun avs s ra R => by
  obtain ⟨v, rfl, r1⟩ := rel1 ra
  simp only [VRel] at r1; subst r1
  obtain ⟨items, pl, rvs⟩ := R.objs _ hl
  have hlen := rvs.length
  have hlt : l < s.heap.objs.size := by obtain ⟨n, e⟩ := pl; exact Heap.lt_size e
  simp only [Array.length_toList] at hlen
  refine call_reversed_list (PlainList.isList pl) ?_
  have hr : (s.heap.push (revObj l ((items.size : Int) - 1))).IsRevIter s.heap.objs.size l ((items.size : Int) - 1) := ⟨_, Heap.get?_push_size _ rfl, rfl, rfl⟩
  refine wpAny_pyIter_revIter hr ?_
  have hr' : (s.heap.push (revObj l ((items.size : Int) - 1))).IsRevIter s.heap.objs.size l ((vs.length : Int) - 1 - ((0 : Nat) : Int)) := by
    have e0 : ((vs.length : Int) - 1 - ((0 : Nat) : Int)) = (items.size : Int) - 1 := by omega
    rw [e0]; exact hr
  exact itPost_one (tk := s.toks) R (fun _ _ e => e) (Nat.le_refl _) (src_rev (n := vs.length) hA (Nat.ne_of_lt hlt)) ⟨Nat.zero_le _, hr'⟩ q

-- enumerate
noncomputable def enumItem (Item : Nat → AH → Option V → Prop) : Nat → AH → Option V → Prop := fun i H r => ∃ x, Item i H x ∧ r = x.map fun v => .tup [.int i, v]
theorem new_tuple {X : List Addr} {h h' : Heap} {T : Addr} {vs : Array Value} {us : List V} (hX : ∀ a ∈ X, ∃ o, h.get? a = some o) (hT : h.objs.size ≤ T) (e : h'.get? T = some { cls := .type "tuple", data := .seq vs }) (r : VsRel X h' us vs.toList) : VRel X h' (.tup us) (.ref T) := by
  simp only [VRel]
  exact ⟨T, vs, rfl, fun q => let ⟨o, e⟩ := hX _ q; absurd (Heap.lt_size e) (Nat.not_lt.mpr hT), ⟨_, e, rfl, 0, rfl⟩, r⟩
theorem nf_of {X : List Addr} {h : Heap} {a : Addr} {o o' : Obj} (e : h.get? a = some o) (n : ¬ Frozen X a o) (e' : h.get? a = some o') : ¬ Frozen X a o' := Option.some.inj (e.symm.trans e') ▸ n
theorem nf_it {X : List Addr} {h : Heap} {I l : Addr} {i : Nat} (x : h.IsListIter I l i) (o' : Obj) (e' : h.get? I = some o') : ¬ Frozen X I o' := E13 x fun o e c _ => nf_of e (notFrozen_cls c (by decide) (by decide)) e'
theorem fz_but {X wr : List Addr} {h h' : Heap} (nf : ∀ b ∈ wr, ∀ o, h.get? b = some o → ¬ Frozen X b o) (k : ∀ b o, b ∉ wr → h.get? b = some o → h'.get? b = some o) : Fz X h h' := fun a o e f => k a o (fun q => nf a q o e f) e
theorem nm2 {b x y : Addr} (n : b ∉ [x, y]) : b ≠ x ∧ b ≠ y := by simpa using n
theorem nm4 {b x y z w : Addr} (n : b ∉ [x, y, z, w]) : b ≠ x ∧ b ≠ y ∧ b ≠ z ∧ b ≠ w := by simpa using n
theorem VsRel.beyond {X : List Addr} {h : Heap} {us : List V} {vs : Array Value} {i : Nat} (r : VsRel X h us vs.toList) (e : us[i]? = none) : vs[i]? = none := by
  rw [Array.getElem?_eq_none_iff, ← Array.length_toList, r.length]; exact List.getElem?_eq_none_iff.mp e
structure ESt (e it l : Addr) (i : Nat) (h : Heap) : Prop where
  he : ∃ old, IsEnum h e it i old
  hit : h.IsListIter it l i
theorem ESt.nf {X : List Addr} {e it l : Addr} {i : Nat} {h : Heap} (S : ESt e it l i h) : ∀ b ∈ [e, it], ∀ o, h.get? b = some o → ¬ Frozen X b o :=
  List.forall_mem_cons.2 ⟨fun o e => S.he.elim fun _ q => nf_of q (notFrozen_cls rfl (by decide) (by decide)) e, List.forall_mem_cons.2 ⟨nf_it S.hit, nofun⟩⟩
theorem src_enum_list {e it l : Addr} {elts : List Expr} {k : Nat} (hA : A.handled = none) (hne : e ≠ it) (hel : l ≠ e) (hil : l ≠ it) :
    Src C A (.Tuple elts k tpos) (.ref e) [e, it] [e, it] (ESt e it l) (enumItem (listItem l)) where
  sub := fun b h => h
  nofz := fun i h S => S.nf
  live := fun i h S => List.forall_mem_cons.2 ⟨S.he.elim fun _ q => ⟨_, q⟩, List.forall_mem_cons.2 ⟨S.hit.elim fun o q => ⟨o, q.1⟩, nofun⟩⟩
  frame := fun i h h' S _ kk => ⟨S.he.elim fun old q => ⟨old, kk e (.head _) _ q⟩, S.hit.at fun o e => kk it (.tail _ (.head _)) o e⟩
  self := fun i s S => S.he.elim fun old q => wpAny_pyIter_enum q ⟨rfl, rfl⟩
  item := fun i H s x S R hf hx => E12 hx fun x' h1 hx => E12 h1 fun vs hm hx' => E12 (R.objs _ hm) fun items pl rv => S.he.elim fun old he => by
    obtain ⟨v, rfl, rfl⟩ := Option.map_eq_some_iff.mp hx.symm
    refine E12 (rv.get hx'.symm) fun w hw rw => wpAny_pyNext_enum_item he S.hit (PlainList.isList pl) (by simpa using hw) hne fun h' hout hit' hT hsz kk => ⟨_, rfl, wpAny_letOwnedTupleGo_enum hout fun h'' he'' hs'' => ?_⟩
    have hk : ∀ b o, b ∉ [e, it] → s.heap.get? b = some o → h''.get? b = some o := fun b o n e1 => (hs''.2 b (nm2 n).1).trans (kk b o (nm2 n).1 (nm2 n).2 e1)
    exact ⟨h'', s.toks + 1, rfl, new_tuple (vs := #[.int i s.toks, w]) (fun a ha => (R.xl a ha).2) (Nat.le_refl _) ((hs''.2 _ (Nat.ne_of_gt (Heap.lt_size he))).trans hT) (.cons ⟨_, rfl⟩ (.cons (rw.fz (fz_but S.nf hk)) .nil)),
      ⟨⟨_, by simpa using he''⟩, hit'.at fun o e1 => (hs''.2 it (Ne.symm hne)).trans e1⟩, hk⟩
  done := fun i H s S R hf hx => E12 hx fun x' h1 hx => E12 h1 fun vs hm hx' => E12 (R.objs _ hm) fun items pl rv => S.he.elim fun old he => by
    have hn : x' = none := by cases x' with | none => rfl | some _ => cases hx
    exact wpAny_pyNext_enum_end hA he S.hit (PlainList.isList pl) (rv.beyond (hx'.symm.trans hn)) fun h' hs' => ⟨rfl, h', s.toks, rfl, fun b o n e => hs' b o (nm2 n).2 e⟩
theorem itPost_two {s : Shared} {J : Nat → Heap → Prop} {Item : Nat → AH → Option V → Prop} {h' : Heap} {tk : Tok} (R : Rel C H s) (k₀ : ∀ b o, s.heap.get? b = some o → h'.get? b = some o)
    (S : Src C A target (.ref (s.heap.objs.size + 1)) [s.heap.objs.size + 1, s.heap.objs.size] [s.heap.objs.size + 1, s.heap.objs.size] J Item) (hJ : J 0 h') (q : QI C Item H) :
    ItPost C A target QI H s (.ref (s.heap.objs.size + 1)) { s with heap := h', toks := tk } := by
  refine ⟨[], _, _, J, Item, H, q, S, hJ, fun b hb => ?_, fun b hb => ?_, fun b hb => (nomatch hb), R.ext k₀, kept_of_ext k₀⟩
  · have hz : s.heap.objs.size ≤ b := by rcases List.mem_cons.mp hb with rfl | hb; omega; rw [List.mem_singleton.mp hb]; exact Nat.le_refl _
    exact fun h => absurd (R.lt h) (Nat.not_lt.mpr hz)
  · have hz : s.heap.objs.size ≤ b := by rcases List.mem_cons.mp hb with rfl | hb; omega; rw [List.mem_singleton.mp hb]; exact Nat.le_refl _
    exact ⟨R.baseNew hz, .inr (Heap.get?_none_of_le hz)⟩
theorem ci_enum_list {l : Addr} {vs : List V} {elts : List Expr} {k : Nat} (hA : A.handled = none) (hl : (l, AO.list vs) ∈ H) (q : QI C (enumItem (listItem l)) H) : CI C A (.Tuple elts k tpos) (.ty "enumerate") [.ref l] QI H := ci_call ty_nr ty_eq fun avs s ra R => by
  obtain ⟨v, rfl, r1⟩ := rel1 ra
  simp only [VRel] at r1; subst r1
  obtain ⟨items, pl, rvs⟩ := R.objs _ hl
  have hlt : l < s.heap.objs.size := by obtain ⟨n, e⟩ := pl; exact Heap.lt_size e
  refine call_enumerate_list (PlainList.isList pl) fun h' he hit hsz ext => wpAny_pyIter_enum he ?_
  exact itPost_two (tk := s.toks) R ext (src_enum_list hA (add_ne _ 1 (by decide)) (ne_add 1 hlt) (ne_add' hlt)) ⟨⟨_, he⟩, hit⟩ q
-- zip
noncomputable def zipItem (l1 l2 : Addr) : Nat → AH → Option V → Prop := fun i H r => ∃ xs ys, (l1, AO.list xs) ∈ H ∧ (l2, AO.list ys) ∈ H ∧ ((∃ x y, xs[i]? = some x ∧ ys[i]? = some y ∧ r = some (.tup [x, y])) ∨ ((xs[i]? = none ∨ ys[i]? = none) ∧ r = none))
structure ZSt (z TI TO i1 i2 l1 l2 : Addr) (i : Nat) (h : Heap) : Prop where
  hz : IsZip h z TI TO .none
  hTI : IsPair h TI (.ref i1) (.ref i2)
  hT : ∃ a b, IsPair h TO a b
  h1 : h.IsListIter i1 l1 i
  h2 : h.IsListIter i2 l2 i
theorem ZSt.nf {X : List Addr} {z TI TO i1 i2 l1 l2 : Addr} {i : Nat} {h : Heap} (S : ZSt z TI TO i1 i2 l1 l2 i h) (hX : TO ∈ X) : ∀ b ∈ [z, TO, i1, i2], ∀ o, h.get? b = some o → ¬ Frozen X b o :=
  List.forall_mem_cons.2 ⟨fun o e => nf_of S.hz (notFrozen_cls rfl (by decide) (by decide)) e, List.forall_mem_cons.2 ⟨fun o e => S.hT.elim fun a p => p.elim fun b q => nf_of q (by simp [Frozen, hX]) e,
    List.forall_mem_cons.2 ⟨nf_it S.h1, List.forall_mem_cons.2 ⟨nf_it S.h2, nofun⟩⟩⟩⟩
theorem src_zip {z TI TO i1 i2 l1 l2 : Addr} {elts : List Expr} {k : Nat} (hA : A.handled = none) (D : ZipApart z TI TO i1 i2 l1 l2) (hTO : TO ∈ C.X) :
    Src C A (.Tuple elts k tpos) (.ref z) [z, TI, TO, i1, i2] [z, TO, i1, i2] (ZSt z TI TO i1 i2 l1 l2) (zipItem l1 l2) where
  sub := fun b h => (List.mem_cons.mp h).elim (fun e => e ▸ .head _) fun h => .tail _ (.tail _ h)
  nofz := fun i h S => S.nf hTO
  live := fun i h S => List.forall_mem_cons.2 ⟨⟨_, S.hz⟩, List.forall_mem_cons.2 ⟨⟨_, S.hTI⟩, List.forall_mem_cons.2 ⟨S.hT.elim fun a p => p.elim fun b q => ⟨_, q⟩, List.forall_mem_cons.2 ⟨S.h1.elim fun o q => ⟨o, q.1⟩, List.forall_mem_cons.2 ⟨S.h2.elim fun o q => ⟨o, q.1⟩, nofun⟩⟩⟩⟩⟩
  frame := fun i h h' S _ kk => ⟨kk z (.head _) _ S.hz, kk TI (.tail _ (.head _)) _ S.hTI, S.hT.elim fun a p => p.elim fun b q => ⟨a, b, kk TO (.tail _ (.tail _ (.head _))) _ q⟩,
    S.h1.at fun o e => kk i1 (.tail _ (.tail _ (.tail _ (.head _)))) o e, S.h2.at fun o e => kk i2 (.tail _ (.tail _ (.tail _ (.tail _ (.head _))))) o e⟩
  self := fun i s S => wpAny_pyIter_zip S.hz ⟨rfl, rfl⟩
  item := fun i H s x S R hf hx => E23 hx fun xs ys m1 m2 hx => E12 (R.objs _ m1) fun its1 p1 rv1 => E12 (R.objs _ m2) fun its2 p2 rv2 => S.hT.elim fun a hT => hT.elim fun b' hT => hx.elim (fun h => E23 h fun u v hu hv hx => by
    obtain rfl := Option.some.inj hx
    refine E12 (rv1.get hu) fun w1 hw1 rw1 => E12 (rv2.get hv) fun w2 hw2 rw2 => wpAny_pyNext_zip_item D S.hz S.hTI hT S.h1 S.h2 (PlainList.isList p1) (PlainList.isList p2) (by simpa using hw1) (by simpa using hw2) fun h' a1 a2 a3 a4 a5 a6 a7 => ⟨_, rfl, wpAny_letOwnedTupleGo_zip a1 fun h'' hz'' hs'' => ?_⟩
    have hk : ∀ b o, b ∉ [z, TO, i1, i2] → s.heap.get? b = some o → h''.get? b = some o := fun b o n e => have m := nm4 n; (hs''.2 b m.1).trans (a7 b o m.1 m.2.1 m.2.2.1 m.2.2.2 e)
    have hf' := fz_but (S.nf hTO) hk
    exact ⟨h'', s.toks, rfl, new_tuple (vs := #[w1, w2]) (fun a ha => (R.xl a ha).2) (Nat.le_refl _) ((hs''.2 _ (Nat.ne_of_gt (Heap.lt_size S.hz))).trans a5) (.cons (rw1.fz hf') (.cons (rw2.fz hf') .nil)),
      ⟨hz'', (hs''.2 _ D.TIz).trans (a7 _ _ D.TIz D.TITO D.TIi1 D.TIi2 S.hTI), ⟨w1, w2, (hs''.2 _ D.TOz).trans a2⟩, a3.at fun o e1 => (hs''.2 _ D.i1z).trans e1, a4.at fun o e1 => (hs''.2 _ D.i2z).trans e1⟩, hk⟩) fun h => nomatch h.2
  done := fun i H s S R hf hx => E23 hx fun xs ys m1 m2 hx => E12 (R.objs _ m1) fun its1 p1 rv1 => E12 (R.objs _ m2) fun its2 p2 rv2 => S.hT.elim fun a hT => hT.elim fun b' hT => hx.elim (fun h => E23 h fun u v hu hv hx => nomatch hx) fun h =>
    wpAny_pyNext_zip_end hA D S.hz S.hTI hT S.h1 S.h2 (PlainList.isList p1) (PlainList.isList p2) (h.1.imp rv1.beyond rv2.beyond) fun h' kk => ⟨rfl, h', s.toks, rfl, fun b o n e => have m := nm4 n; kk b o m.1 m.2.1 m.2.2.1 m.2.2.2 e⟩
theorem ci_zip {l1 l2 : Addr} {xs ys : List V} {elts : List Expr} {k : Nat} (hA : A.handled = none) (m1 : (l1, AO.list xs) ∈ H) (m2 : (l2, AO.list ys) ∈ H) (q : ∀ b, QI (C.hide [b]) (zipItem l1 l2) H) : CI C A (.Tuple elts k tpos) (.ty "zip") [.ref l1, .ref l2] QI H := ci_call ty_nr ty_eq fun avs s ra R => by
  obtain ⟨v, w, rfl, r1, r2⟩ := rel2 ra
  simp only [VRel] at r1 r2; subst r1 r2
  obtain ⟨its1, p1, rv1⟩ := R.objs _ m1
  obtain ⟨its2, p2, rv2⟩ := R.objs _ m2
  have z1 : l1 < s.heap.objs.size := by obtain ⟨n, e⟩ := p1; exact Heap.lt_size e
  have z2 : l2 < s.heap.objs.size := by obtain ⟨n, e⟩ := p2; exact Heap.lt_size e
  refine call_zip_2 (PlainList.isList p1) (PlainList.isList p2) fun h' hz hTI hTO h1 h2 hsz ext => wpAny_pyIter_zip hz ?_
  have D : ZipApart (s.heap.objs.size + 4) (s.heap.objs.size + 2) (s.heap.objs.size + 3) s.heap.objs.size (s.heap.objs.size + 1) l1 l2 := zipApart_new z1 z2
  refine ⟨[s.heap.objs.size + 3], _, _, _, _, H, q _, src_zip (C := C.hide [s.heap.objs.size + 3]) hA D (by simp [Cfg.hide]), ⟨hz, hTI, ⟨_, _, hTO⟩, h1, h2⟩, fun b hb => ?_, fun b hb => ?_, fun b hb => by simp at hb; simp [hb], R.hide (t := s.toks) ext (fun a ha => by rw [List.mem_singleton.mp ha]; exact ⟨by omega, _, hTO⟩), kept_of_ext (t := s.toks) ext⟩
  · have hz : s.heap.objs.size ≤ b := zip_new hb
    exact fun h => absurd (R.lt h) (Nat.not_lt.mpr hz)
  · have hz : s.heap.objs.size ≤ b := zip_newW hb
    exact ⟨R.baseNew hz, .inr (Heap.get?_none_of_le hz)⟩
end
end
noncomputable section
noncomputable def putE (name : Str) (u : V) : List (Str × V) → List (Str × V)
  | [] => [(name, u)]
  | (k, x) :: r => if k == name then (k, u) :: r else (k, x) :: putE name u r

theorem isStr_eq {e : DictEntry} {k : Str} {t : Tok} (h : e.key = .str k t) (name : Str) : e.key.isStr name = (k == name) := by rw [h]; rfl
theorem EsRel.found {X : List Addr} {h : Heap} {name : Str} {u : V} : ∀ {es : List (Str × V)} {l : List DictEntry}, EsRel X h es l → es.lookup name = some u → ∃ v, getL name l = some (some v) ∧ VRel X h u v
  | [], _, _, e => by simp at e
  | (k, x) :: es, l, ⟨en, r, a, ⟨t, b⟩, c, d⟩, e => by
    subst a
    have hk := isStr_eq b name
    rw [List.lookup_cons] at e
    cases q : name == k with
    | true =>
      rw [q] at e; cases e
      refine ⟨en.val, ?_, c⟩
      have : (k == name) = true := by rw [beq_iff_eq] at q ⊢; exact q.symm
      simp [getL, List.find?_cons, hk, this]
    | false =>
      rw [q] at e
      obtain ⟨v, hv, rv⟩ := EsRel.found d e
      refine ⟨v, ?_, rv⟩
      have : (k == name) = false := by rw [beq_eq_false_iff_ne] at q ⊢; exact fun h => q h.symm
      unfold getL at hv ⊢
      rw [List.find?_cons, hk, this]
      have hr : en.refKey = false := by unfold DictEntry.refKey; rw [b]
      simp only [List.any_cons, hr, Bool.false_or]
      exact hv
theorem EsRel.missing {X : List Addr} {h : Heap} {name : Str} : ∀ {es : List (Str × V)} {l : List DictEntry}, EsRel X h es l → es.lookup name = none → getL name l = some none
  | [], _, r, e => by simp only [EsRel] at r; subst r; rfl
  | (k, x) :: es, l, ⟨en, r, a, ⟨t, b⟩, c, d⟩, e => by
    subst a
    have hk := isStr_eq b name
    rw [List.lookup_cons] at e
    cases q : name == k with
    | true => rw [q] at e; cases e
    | false =>
      rw [q] at e
      have hv := EsRel.missing d e
      have : (k == name) = false := by rw [beq_eq_false_iff_ne] at q ⊢; exact fun h => q h.symm
      unfold getL at hv ⊢
      rw [List.find?_cons, hk, this]
      have hr : en.refKey = false := by unfold DictEntry.refKey; rw [b]
      simp only [List.any_cons, hr, Bool.false_or]
      exact hv
theorem EsRel.put {X : List Addr} {h : Heap} {name : Str} {u : V} {v : Value} {hsh : Int} {t : Tok} (rv : VRel X h u v) : ∀ {es : List (Str × V)} {l : List DictEntry}, EsRel X h es l → EsRel X h (putE name u es) (putL name hsh (.str name t) v l)
  | [], _, r => by simp only [EsRel] at r; subst r; exact ⟨_, _, rfl, ⟨t, rfl⟩, rv, rfl⟩
  | (k, x) :: es, l, ⟨en, r, a, ⟨t', b⟩, c, d⟩ => by
    subst a
    have hk := isStr_eq b name
    unfold putE putL
    rw [hk]
    cases q : k == name with
    | true => exact ⟨_, _, rfl, ⟨t', b⟩, rv, d⟩
    | false => exact ⟨_, _, rfl, ⟨t', b⟩, c, EsRel.put rv d⟩
theorem EsRel.length {X : List Addr} {h : Heap} : ∀ {es : List (Str × V)} {l : List DictEntry}, EsRel X h es l → l.length = es.length
  | [], _, r => by simp only [EsRel] at r; subst r; rfl
  | (k, x) :: es, l, ⟨en, r, a, _, _, d⟩ => by subst a; simp [EsRel.length d]
theorem putE_length (name : Str) (u : V) : ∀ es, (putE name u es).length ≤ es.length + 1
  | [] => by simp [putE]
  | (k, x) :: es => by
    unfold putE
    split
    · simp
    · simpa using putE_length name u es

structure ClsOk (K : Frag) (Cl : Addr) : Prop where
  get : plainGet K Cl "" = true
  dict : hasDictIn K Cl = true
  set : findIn K (.ref Cl) "__setattr__" = some (some (.builtin "object.__setattr__"))
  over : plainOver K Cl = true
  makes : makesIn K Cl = true
  keep : keepIn K (.ref Cl) = true

section
variable {C C' : Cfg} {gl : List (Str × V)} {A : Around} {env : Env} {pos tpos : Pos} {target : Expr} {H H' : AH} {Q : V → AH → Prop} {QF : Fl → AH → Prop} {QB : Bool → AH → Prop} {QU : Unit → AH → Prop}
variable {x dx Cl : Addr} {es : List (Str × V)} {name : Str} {QM : V → List V → AH → Prop}

theorem handed_v {X : List Addr} {h : Heap} {u : V} {v : Value} (r : VRel X h u v) (hb : ∀ i, u = .bi i → handedIn (.builtin i) = true) : handedIn v = true := by
  cases u <;> simp only [VRel] at r
  case bi id => subst r; exact hb _ rfl
  case tup => obtain ⟨a, _, rfl, _⟩ := r; rfl
  all_goals first | (subst r; rfl) | (obtain ⟨t, rfl⟩ := r; rfl)

theorem inst_at {s : Shared} (R : Rel C H s) (hx : (x, AO.obj (instObj Cl dx)) ∈ H) (hd : (dx, AO.attrs es) ∈ H) : ∃ l n, InstAt s.heap x (instObj Cl dx) Cl (some (dictOf l n)) ∧ EsRel C.X s.heap es l ∧ s.heap.get? dx = some (dictOf l n) := by
  obtain ⟨h1, _⟩ := R.objs _ hx
  obtain ⟨l, n, h2, r⟩ := R.objs _ hd
  exact ⟨l, n, ⟨h1, rfl, rfl, h2⟩, r, h2⟩

theorem ga_own {v : V} {expr : Bool} {attr : Option Value} (G : C.Ok gl) (O : ClsOk C.K Cl) (hx : (x, AO.obj (instObj Cl dx)) ∈ H) (hd : (dx, AO.attrs es) ∈ H) (hl : es.lookup name = some v) (ha : findIn C.K (.ref Cl) name = some attr) (hn : noGet C.K attr = true)
    (hb : ∀ i, v = .bi i → handedIn (.builtin i) = true) (q : Q v H) : Op1 C A (VRel C.X) (fun o => getAttr o name expr) (.ref x) Q H := fun w s rw R => by
  simp only [VRel] at rw; subst rw
  obtain ⟨l, n, I, r, _⟩ := inst_at R hx hd
  obtain ⟨v', hv, rv⟩ := r.found hl
  have X := G.kin.keeps R.keep
  exact get_value X I (plainGet_of O.get).1 (findObj_own O.dict ha hn (by rw [lookIn_dict, hv])) (handed_v rv hb) (post_tk (s := s) R rv q)

theorem sa_own {v : V} (G : C.Ok gl) (O : ClsOk C.K Cl) (hx : (x, AO.obj (instObj Cl dx)) ∈ H) (hu : Mine.Upd dx (.attrs es) (.attrs (putE name v es)) H H') (ht : takerIn C.K Cl name = some none) (hz : es.length ≤ 900) (q : QU () H') :
    Op2 C A URel (fun o v => setAttr o name v) (.ref x) v QU H := fun w u s rw ru R => by
  simp only [VRel] at rw; subst rw
  obtain ⟨l, n, I, r, D⟩ := inst_at R hx hu.mem
  have X := G.kin.keeps R.keep
  have hlen := r.length
  have hsome : ∃ o, getL name l = some o := by
    cases e : es.lookup name with
    | none => exact ⟨_, r.missing e⟩
    | some u => obtain ⟨v, h, _⟩ := r.found e; exact ⟨_, h⟩
  refine set_plain X I O.set ?_
  refine osa_open (s := { s with toks := s.toks + 1 }) X I O.over ht fun b => ?_
  obtain ⟨cd, hc, hd'⟩ := any_some O.dict
  have hx' := I.at_
  have e1 := putName_dict name (PyData.keyHash C.w.params name) (.str name (s.toks + 1)) u l n
  have D' : (s.heap.update dx (Obj.putName name (PyData.keyHash C.w.params name) (.str name (s.toks + 1)) u)).get? dx = some (dictOf (putL name (PyData.keyHash C.w.params name) (.str name (s.toks + 1)) u l) (putN name l n)) := by
    rw [Heap.get?_update_self _ D (by rw [e1]; rfl), e1]
  have hs : Heap.SameBut dx s.heap (s.heap.update dx (Obj.putName name (PyData.keyHash C.w.params name) (.str name (s.toks + 1)) u)) := Heap.SameBut.update ..
  have hdk : dx ∈ keys H := List.mem_map_of_mem (f := Prod.fst) hu.mem
  have hf : Fz C.X s.heap (s.heap.update dx (Obj.putName name (PyData.keyHash C.w.params name) (.str name (s.toks + 1)) u)) := fun a o e f => hs.extBut a o (fun q => R.notin e f (q ▸ hdk)) e
  refine wpAny_bind (wpAny_pure (wpAny_bind (wpAny_bind (wpAny_loadPart hx' (wpAny_bind (Looks.here (s := { s with toks := s.toks + 1 }) (looks_clsIn X hc) ?_))))))
  rw [hd']
  refine wpAny_pure (a := some dx) (wpAny_bind (wpAny_pure (wpAny_bind ?_)))
  unfold nsSet
  refine wpAny_bind (wpAny_bind (wpAny_askSetting (wpAny_pure (wpAny_bind (wpAny_mkText (wpAny_bind (wpAny_loadPart D ?_)))))))
  have c : (!l.toArray.any (·.key.isStr name) && l.toArray.any (·.refKey)) = false := by
    obtain ⟨o, ho⟩ := hsome
    unfold getL at ho
    rw [← Array.any_toList, ← Array.any_toList]
    split at ho
    · rename_i en he
      rw [List.any_eq_true.mpr ⟨en, List.mem_of_find?_eq_some he, List.find?_some he⟩]; rfl
    · split at ho
      · cases ho
      · rename_i z; rw [Bool.not_eq_true] at z; rw [z, Bool.and_false]
  dsimp only
  rw [aRefKeyMayBeTheName_at, c]
  refine wpAny_updatePart D ?_
  have hlen2 : (putL name (PyData.keyHash C.w.params name) (.str name (s.toks + 1)) u l).length ≤ 1000 := by
    have h1 := (EsRel.put (hsh := PyData.keyHash C.w.params name) (t := s.toks + 1) (name := name) ru r).length
    have h2 := putE_length name v es
    lia
  refine wpAny_bind (wpAny_lookBehind D' (pastItsLine_dict (by rw [List.size_toArray, sizeLine_eq]; lia)) ?_)
  obtain ⟨R', k'⟩ := R.upd hu (h' := _) (t := s.toks + 2) (fun b o n e => hs.extBut b o n e) ⟨_, _, D', (EsRel.put ru r).fz hf⟩
  exact wpAny_pure ⟨(), H', q, trivial, R', k'⟩

theorem gm_inst {f : Addr} (G : C.Ok gl) (O : ClsOk C.K Cl) (hx : (x, AO.obj (instObj Cl dx)) ∈ H) (hd : (dx, AO.attrs es) ∈ H) (hl : es.lookup name = none) (hf : findIn C.K (.ref Cl) name = some (some (.ref f))) (hT : isFn C.K (.ref f) = true)
    (q : QM (.ref f) [.ref x] H) : WPM C A (.ref x) name QM H := fun pl w s rw R => by
  simp only [VRel] at rw; subst rw
  obtain ⟨l, n, I, r, _⟩ := inst_at R hx hd
  have X := G.kin.keeps R.keep
  refine method_fn X I (plainGet_of O.get).1 (plainGet_of O.get).2 hf (beq_iff_eq.mp hT) (by show (lookIn name (dictOf l n)).map _ = _; rw [lookIn_dict, r.missing hl]; rfl) ?_
  exact post_id (x := (V.ref f, [V.ref x])) R ⟨rfl, .cons rfl .nil⟩ q

theorem ga_bound {f : Addr} {expr : Bool} (G : C.Ok gl) (O : ClsOk C.K Cl) (hx : (x, AO.obj (instObj Cl dx)) ∈ H) (hd : (dx, AO.attrs es) ∈ H) (hl : es.lookup name = none) (hf : findIn C.K (.ref Cl) name = some (some (.ref f))) (hT : isFn C.K (.ref f) = true)
    (hgf : specialIn C.K (.ref f) "__get__" = some (some (.builtin "function.__get__"))) (ht : takesIn C.K (.ref f) = some false) (hc : copiedNames.contains name = false)
    (q : ∀ b, Q (.ref b) ((b, .obj (methodObj (.ref f) (.ref x))) :: H)) : Op1 C A (VRel C.X) (fun o => getAttr o name expr) (.ref x) Q H := fun w s rw R => by
  simp only [VRel] at rw; subst rw
  obtain ⟨l, n, I, r, _⟩ := inst_at R hx hd
  have X := G.kin.keeps R.keep
  refine get_bind X I (plainGet_of O.get).1 (findObj_fn O.dict hf hgf ht hc (by rw [lookIn_dict, r.missing hl])) (plainGet_of O.get).2
    (wpAny_call (fn_get (s := { s with toks := s.toks + 1 }) X (beq_iff_eq.mp hT) (handed_on rfl ?_)))
  have ext : ∀ b o, s.heap.get? b = some o → (s.heap.push (methodObj (.ref f) (.ref x))).get? b = some o := fun b o e => Heap.get?_push_of_some _ e
  exact ⟨_, _, q _, rfl, R.add (t := s.toks + 1) ext (Nat.le_refl _) ⟨Heap.get?_push_size _ rfl, notFrozen_cls rfl (by decide) (by decide)⟩, kept_add (t := s.toks + 1) ext (Nat.le_refl _)⟩

theorem mk_inst {fI : Addr} {F : FnA} {D : Value → Prop} {ln : List Str} {args : List V} {vals : List (Option V)} {body : List Stmt} {n : Nat} (G : C.Ok gl) (O : ClsOk C.K Cl) (hCl : True) (hi : findIn C.K (.ref Cl) "__init__" = some (some (.ref fI))) (hT : typeIn C.K (.ref fI) = some (.type "function"))
    (hF : ∀ H s, Rel C H s → ∃ cd, D cd ∧ FnAt s.heap fI F cd) (hroom : Room A (n + 2)) (hb : F.body = .stmts body) (hbind : Binds F (ln.take (args.length + 1)))
    (hln : ∀ x ∈ ln, F.scope.names.lookup x = some .local) (nd : ln.Nodup) (hcell : ∀ x ∈ F.scope.names, x.2 ≠ .cell) (i : ∀ x, Init ln (.ref x :: args) (vals.set 0 (some (.ref x))))
    (h : ∀ x dx L cd A', Room A' n → D cd → WPS C A' (envF F L fI cd F.closure) body (fun fl H₁ => ∃ H₂, Sub H₂ H₁ ∧ fl.val = .none ∧ Q (.ref x) H₂)
      ((L, .ns ln (vals.set 0 (some (.ref x)))) :: (x, .obj (instObj Cl dx)) :: (dx, .attrs []) :: H))
    (hco : F.scope.isCoroutine = false := by rfl) (hgen : F.scope.isGenerator = false := by rfl) (hk : F.scope.kind = .function := by rfl) :
    WPC C A (.ref Cl) args Q H := fun fv avs s rf ra R => by
  simp only [VRel] at rf; subst rf
  have X := G.kin.keeps R.keep
  refine ⟨?_, ?_⟩
  · obtain ⟨k, _, hk'⟩ := looks_keep (M := model C.prog C.w) O.keep X
    exact ⟨k, fun Q' q => hk'.here q⟩
  · refine wpAny_call ?_
    obtain ⟨hh, g, d, t, os⟩ := s
    refine make_core (makes_of X O.makes) (looks_findIn X hi) (fun self => bind_fn X self hT) (.inl rfl) ?_
    have e1 : ∀ b o, hh.get? b = some o → (hh.push emptyDict).get? b = some o := fun b o e => Heap.get?_push_of_some _ e
    have e2 : ∀ b o, (hh.push emptyDict).get? b = some o → ((hh.push emptyDict).push (instObj Cl hh.objs.size)).get? b = some o := fun b o e => Heap.get?_push_of_some _ e
    have R₁ := R.add (t := t) (a := hh.objs.size) (x := .attrs []) e1 (Nat.le_refl _) ⟨[], 0, Heap.get?_push_size _ rfl, rfl⟩
    have R₂ := R₁.add (h' := (hh.push emptyDict).push (instObj Cl hh.objs.size)) (t := t) (a := hh.objs.size + 1) (x := .obj (instObj Cl hh.objs.size)) e2 (by show (hh.push emptyDict).objs.size ≤ _; rw [Heap.size_push]; exact Nat.le_refl _)
      ⟨by have := Heap.get?_push_size (hh.push emptyDict) (o := instObj Cl hh.objs.size) rfl; rw [Heap.size_push] at this; exact this, by simp [Frozen]⟩
    have k₁ : Kept H ⟨hh, g, d, t, os⟩ ((hh.objs.size, .attrs []) :: H) ⟨hh.push emptyDict, g, d, t, os⟩ := kept_add (t := t) e1 (Nat.le_refl _)
    have k₂ : Kept ((hh.objs.size, .attrs []) :: H) ⟨hh.push emptyDict, g, d, t, os⟩ ((hh.objs.size + 1, .obj (instObj Cl hh.objs.size)) :: (hh.objs.size, .attrs []) :: H) ⟨(hh.push emptyDict).push (instObj Cl hh.objs.size), g, d, t, os⟩ :=
      kept_add (s := ⟨hh.push emptyDict, g, d, t, os⟩) (t := t) e2 (by show (hh.push emptyDict).objs.size ≤ _; rw [Heap.size_push]; exact Nat.le_refl _)
    have hr' : Room (A.under (.builtin "type.__call__" ⟨.ref Cl :: avs, []⟩)) (n + 1) := by
      refine ⟨hroom.hd, ?_, ?_⟩
      · have := hroom.depth
        have e : (A.under (.builtin "type.__call__" ⟨.ref Cl :: avs, []⟩)).depth = A.depth + Code.weight (.builtin "type.__call__" ⟨.ref Cl :: avs, []⟩) := rfl
        have hw : Code.weight (.builtin "type.__call__" ⟨.ref Cl :: avs, []⟩) = 1 := by kernel_rfl
        lia
      · have := hroom.units
        have e : (A.under (.builtin "type.__call__" ⟨.ref Cl :: avs, []⟩)).units = A.units + Code.cUnits (.builtin "type.__call__" ⟨.ref Cl :: avs, []⟩) := rfl
        have hw : Code.cUnits (.builtin "type.__call__" ⟨.ref Cl :: avs, []⟩) = 1 := by kernel_rfl
        lia
    have key := code_fn (Q := fun v H₂ => v = .none ∧ Q (.ref (hh.objs.size + 1)) H₂) (H := (hh.objs.size + 1, .obj (instObj Cl hh.objs.size)) :: (hh.objs.size, .attrs []) :: H) (xs := .ref (hh.objs.size + 1) :: args) (vals := vals.set 0 (some (.ref (hh.objs.size + 1))))
      G (fun s' R' => hF _ s' R') hr' hb (by simpa using hbind) hln nd hcell (i _) (fun L cd hD => WP.mono (h (hh.objs.size + 1) hh.objs.size L cd _ (hr'.deeper _) hD) fun fl H₁ ⟨H₂, sb, e, q⟩ => ⟨H₂, sb, e, q⟩) hco hgen hk
      (.ref (hh.objs.size + 1) :: avs) _ (.cons rfl (ra.fz (fz_of_ext fun b o e => e2 b o (e1 b o e)))) R₂
    refine codeAny_mono key fun r s' hr => ?_
    cases r with
    | error e => exact hr.elim
    | ok f =>
      cases f with
      | ret v =>
        obtain ⟨u, H₂, ⟨rfl, q⟩, rv, R', k'⟩ := hr
        simp only [VRel] at rv; subst rv
        exact ⟨rfl, ⟨_, H₂, q, rfl, R', (k₁.trans k₂).trans k'⟩⟩
      | _ => exact hr.elim
end
end
noncomputable section
theorem fs_mro : mroOf (.type "function") = pure [.type "function", .type "object"] := by rw [mroOf_type]; kernel_rfl
theorem fs_slot : Slot "function" "__setattr__" "object.__setattr__" := .of (owner := "object") (n := "__setattr__") (by rw [typeLookup_type, builtinLookup_eq_fast]; kernel_rfl) (by decide +kernel) (by decide +kernel) (by decide +kernel)
    (by first | exact .inl (by decide +kernel) | exact .inr (by decide +kernel)) (by rw [isSubtype_type]; kernel_rfl)
theorem fs_pass (self : Value) : refuseLoop self "__setattr__" [.type "function", .type "object"] = pure () := by kernel_rfl
theorem fs_ga : Slot "function" "__getattribute__" "object.__getattribute__" := .of (owner := "object") (n := "__getattribute__") (by rw [typeLookup_type, builtinLookup_eq_fast]; kernel_rfl) (by decide +kernel) (by decide +kernel) (by decide +kernel)
    (by first | exact .inl (by decide +kernel) | exact .inr (by decide +kernel)) (by rw [isSubtype_type]; kernel_rfl)
theorem fs_noga : typeLookup (.type "function") "__getattr__" = pure none := by rw [typeLookup_type, builtinLookup_eq_fast]; kernel_rfl
theorem fs_has : typeHasDict (.type "function") = true := by decide +kernel
theorem fs_tells (f : Addr) : ownStreamTells (.ref f) (.type "function") = pure () := by kernel_rfl
theorem fs_made (f d : Addr) : dictMade (.type "function") f d = pure (some d) := by kernel_rfl

section
variable {C C' : Cfg} {gl : List (Str × V)} {A : Around} {env : Env} {pos tpos : Pos} {H H' : AH} {Q : V → AH → Prop} {QU : Unit → AH → Prop}
variable {f d : Addr} {Fn : FnA} {name : Str} {v : V} {QM : V → List V → AH → Prop}

theorem sa_fn (hname : typeLookup (.type "function") name = pure none) (hf : (f, AO.fn Fn) ∈ H) (q : ∀ d, ∃ H', Mine.Upd f (.fn Fn) (.fobj d) H H' ∧ QU () ((d, .attrs [(name, v)]) :: H')) :
    Op2 C A URel (fun o v => setAttr o name v) (.ref f) v QU H := fun w u s rw ru R => by
  simp only [VRel] at rw; subst rw
  obtain ⟨o, fd, ho, hc, hd, r1, r2, r3, r4, r5, r6, r7, r8, r9, r10, hdn, hsl⟩ := R.objs _ hf
  obtain ⟨oc, odi, oda, osl⟩ := o
  dsimp only at hc hd hdn hsl
  subst hc hd hdn hsl
  have hT : s.TypeIs (.ref f) "function" := ⟨_, ho, rfl⟩
  have hflt : f < s.heap.objs.size := Heap.lt_size ho
  refine wpAny_bind (wpAny_mkText (wpAny_bind (wpAny_callSpecial?_slot hT fs_slot (wpAny_call_entry fs_slot hT PySem.F.store_object.entry ?_ (PySem.F.store_object.args _ _ _)))))
  rw [osa_eq, refuse_eq]
  refine wpAny_bind (wpAny_bind (wpAny_typeOf hT (wpAny_bind (wpAny_of_eq fs_mro ?_))))
  rw [fs_pass]
  refine wpAny_pure (wpAny_bind (wpAny_typeOf hT (wpAny_bind (wpAny_of_eq hname (wpAny_bind (wpAny_pure ?_))))))
  show wpAny _ _ (Builtin.ObjectAttr.storeInOwnDict _ _ _ _ _ _) _ _ _
  unfold Builtin.ObjectAttr.storeInOwnDict
  rw [fs_tells]
  refine wpAny_bind (wpAny_pure ?_)
  rw [if_neg (show ¬ ((Value.type "function" == Value.type "module") = true) from by decide)]
  refine wpAny_bind ?_
  show wpAny _ _ (instanceDict f true) _ _ _
  unfold instanceDict
  refine wpAny_bind (wpAny_loadPart ho ?_)
  dsimp only
  rw [fs_has]
  simp only [Bool.not_true, Bool.or_self, Bool.false_eq_true, if_false]
  refine wpAny_bind (wpAny_alloc ?_)
  obtain ⟨H', hu, qq⟩ := q s.heap.objs.size
  generalize hdd : s.heap.objs.size = d at qq hu ⊢
  have hfd : f ≠ d := fun e => by rw [← hdd] at e; exact absurd hflt (by rw [e]; exact Nat.lt_irrefl _)
  -- a new dict
  have ext₁ : ∀ b o, s.heap.get? b = some o → (s.heap.push emptyDict).get? b = some o := fun b o e => Heap.get?_push_of_some _ e
  have R₁ : Rel C ((d, .attrs []) :: H) { s with heap := s.heap.push emptyDict, toks := s.toks + 1 } := R.add ext₁ (by rw [hdd]; exact Nat.le_refl _) ⟨[], 0, by rw [← hdd]; exact Heap.get?_push_size _ rfl, rfl⟩
  have k₁ : Kept H s ((d, .attrs []) :: H) { s with heap := s.heap.push emptyDict, toks := s.toks + 1 } := kept_add ext₁ (by rw [hdd]; exact Nat.le_refl _)
  -- it becomes the function's own
  have hof := ext₁ _ _ ho
  refine wpAny_bind (wpAny_update hof ?_)
  generalize hh2 : (s.heap.push emptyDict).update f (fun o => { cls := o.cls, dict := some d, data := o.data, slots := o.slots }) = h₂
  have g₂ : h₂.get? f = some { cls := .type "function", dict := some d, data := .func fd } := by rw [← hh2]; exact Heap.get?_update_self _ hof rfl
  have s₂ : Heap.SameBut f (s.heap.push emptyDict) h₂ := hh2 ▸ Heap.SameBut.update ..
  obtain ⟨R₂, k₂⟩ := R₁.upd (h' := h₂) (t := s.toks + 1) (.tail hu) (fun b o n e => s₂.extBut b o n e) (y := .fobj d) ⟨fd, g₂⟩
  rw [fs_made]
  refine wpAny_pure ?_
  show wpAny _ _ (Builtin.ObjectAttr.storeInDict d (.str name s.toks) name u) _ _ _
  have D : h₂.get? d = some (dictOf [] 0) := s₂.extBut _ _ (Ne.symm hfd) (by rw [← hdd]; exact Heap.get?_push_size _ rfl)
  have e1 := putName_dict name (PyData.keyHash C.w.params name) (.str name (s.toks + 1)) u [] 0
  have D' : (h₂.update d (Obj.putName name (PyData.keyHash C.w.params name) (.str name (s.toks + 1)) u)).get? d = some (dictOf (putL name (PyData.keyHash C.w.params name) (.str name (s.toks + 1)) u []) (putN name [] 0)) := by
    rw [Heap.get?_update_self _ D (by rw [e1]; rfl), e1]
  have s₃ : Heap.SameBut d h₂ (h₂.update d (Obj.putName name (PyData.keyHash C.w.params name) (.str name (s.toks + 1)) u)) := Heap.SameBut.update ..
  have hf₂ : Fz C.X s.heap h₂ := fun a o e f' => s₂.extBut a o (fun q => by rw [q] at e; simp only [] at ho; rw [ho] at e; cases e; simp [Frozen] at f') (ext₁ a o e)
  have hf₃ : Fz C.X h₂ (h₂.update d (Obj.putName name (PyData.keyHash C.w.params name) (.str name (s.toks + 1)) u)) := fun a o e f' => s₃.extBut a o (fun q => by rw [q, D] at e; cases e; simp [Frozen] at f') e
  refine wpAny_bind (wpAny_pure (wpAny_bind ?_))
  unfold nsSet
  refine wpAny_bind (wpAny_bind (wpAny_askSetting (wpAny_pure (wpAny_bind (wpAny_mkText (wpAny_bind (wpAny_loadPart D ?_)))))))
  dsimp only [dictOf]
  rw [aRefKeyMayBeTheName_at, show (!([] : List DictEntry).toArray.any (·.key.isStr name) && ([] : List DictEntry).toArray.any (·.refKey)) = false from by simp]
  refine wpAny_updatePart D ?_
  refine wpAny_bind (wpAny_lookBehind D' (pastItsLine_dict (by simp [putL, sizeLine_eq])) ?_)
  obtain ⟨R₃, k₃⟩ := R₂.upd (t := s.toks + 2) (y := .attrs [(name, v)]) (.head) (fun b o n e => s₃.extBut b o n e) ⟨_, _, D', EsRel.put (es := []) ((ru.fz hf₂).fz hf₃) rfl⟩
  exact wpAny_pure ⟨.none, rfl, wpAny_pure ⟨(), _, qq, trivial, R₃, (k₁.trans k₂).trans k₃⟩⟩

theorem gm_fobj {es : List (Str × V)} {v : V} (hname : typeLookup (.type "function") name = pure none) (hf : (f, AO.fobj d) ∈ H) (hd : (d, AO.attrs es) ∈ H) (hl : es.lookup name = some v) (hb : ∀ i, v = .bi i → handedIn (.builtin i) = true)
    (q : QM v [] H) : WPM C A (.ref f) name QM H := fun pl w s rw R => by
  simp only [VRel] at rw; subst rw
  obtain ⟨fd, ho⟩ := R.objs _ hf
  obtain ⟨l, n, hdd, r⟩ := R.objs _ hd
  obtain ⟨u, hu, ru⟩ := r.found hl
  simp only [] at ho hdd
  have hT : s.TypeIs (.ref f) "function" := ⟨_, ho, rfl⟩
  have hcan := PySem.F.canon_object_ga
  unfold getMethod
  refine wpAny_bind (wpAny_specialOf hT fs_ga.lookup ?_)
  dsimp only
  rw [hcan, if_neg Bool.false_ne_true]
  refine wpAny_bind (wpAny_specialOf hT fs_noga ?_)
  simp only [Option.isSome_none, Bool.false_eq_true, if_false]
  refine wpAny_bind (wpAny_specialOf hT hname ?_)
  dsimp only
  refine wpAny_bind ?_
  unfold getAttr getAttrBy
  refine wpAny_bind (wpAny_mkText (wpAny_holding ?_))
  have hT' : Shared.TypeIs { s with toks := s.toks + 1 } (.ref f) "function" := hT
  refine wpAny_bind (wpAny_typeOf hT' (wpAny_bind (wpAny_of_eq fs_ga.lookup ?_)))
  dsimp only
  rw [if_neg (by decide)]
  unfold getAttrByItsOwn
  refine wpAny_bind (wpAny_of_eq (a := none) rfl ?_)
  refine wpAny_bind (wpAny_attempt (wpAny_holding ?_))
  show wpAny _ _ (boundAndCalled _ _ _) _ _ _
  unfold boundAndCalled
  rw [fs_ga.bind]
  refine wpAny_bind (wpAny_pure ?_)
  refine wpAny_call_entry fs_ga hT' PySem.F.entry_object_getattribute ?_ (PySem.F.args_object_getattribute_2 _ _)
  show wpAny _ _ (typeOf (.ref f) >>= fun tp => Builtin.ObjectAttr.find (.ref f) tp name >>= _) _ _ _
  refine wpAny_bind (wpAny_typeOf hT' (wpAny_bind ?_))
  unfold Builtin.ObjectAttr.find
  refine wpAny_bind (wpAny_of_eq hname (wpAny_bind (wpAny_pure (wpAny_bind (wpAny_pure ?_)))))
  show wpAny _ _ (Builtin.ObjectAttr.ownThenClass _ _ _ _) _ _ _
  unfold Builtin.ObjectAttr.ownThenClass
  refine wpAny_bind ?_
  show wpAny _ _ (Builtin.ObjectAttr.ownDict f >>= fun d => Builtin.ObjectAttr.inDict name d) _ _ _
  refine wpAny_bind (wpAny_bind (wpAny_loadPart ho ?_))
  show wpAny _ _ (instanceDict f false) _ _ _
  unfold instanceDict
  refine wpAny_bind (wpAny_loadPart ho (wpAny_pure ?_))
  show wpAny _ _ (nsGet d name) _ _ _
  unfold nsGet
  refine wpAny_bind (wpAny_loadPart hdd ?_)
  rw [nsLook_of (r := some u) (by rw [lookIn_dict]; exact hu)]
  refine wpAny_pure (wpAny_bind (wpAny_rule (wpAny_pure ?_)))
  refine wpAny_pure ⟨u, rfl, ?_⟩
  show wpAny _ _ (handedOut u) _ _ _
  rw [handedOut_of (handed_v ru hb)]
  exact wpAny_pure (wpAny_pure (post_tk (s := s) (x := (v, [])) R ⟨ru, .nil⟩ q))
end
end
noncomputable section
theorem ci_iter : Slot "callable_iterator" "__iter__" "callable_iterator.__iter__" := .of (owner := "callable_iterator") (n := "__iter__") (by rw [typeLookup_type, builtinLookup_eq_fast]; kernel_rfl) (by decide +kernel) (by decide +kernel) (by decide +kernel)
    (by first | exact .inl (by decide +kernel) | exact .inr (by decide +kernel)) (by rw [isSubtype_type]; kernel_rfl)
theorem ci_next : Slot "callable_iterator" "__next__" "callable_iterator.__next__" := .of (owner := "callable_iterator") (n := "__next__") (by rw [typeLookup_type, builtinLookup_eq_fast]; kernel_rfl) (by decide +kernel) (by decide +kernel) (by decide +kernel)
    (by first | exact .inl (by decide +kernel) | exact .inr (by decide +kernel)) (by rw [isSubtype_type]; kernel_rfl)
theorem ci_entry_iter : entryFor table "callable_iterator.__iter__" = some Builtin.«dict_keyiterator.__iter__» :=
  entryFor_alias (id' := "dict_keyiterator.__iter__") (by kernel_rfl) (by first | rfl | decide +kernel | (unfold String.splitOn; simp +decide [String.splitOnAux])) (by decide +kernel) (by kernel_rfl)
theorem ci_entry_next : entryFor table "callable_iterator.__next__" = some Builtin.«callable_iterator.__next__» := entryFor_of_tree (by kernel_rfl)
theorem ci_args_iter (a : Value) : argsOk "callable_iterator.__iter__" ⟨[a], []⟩ := by unfold argsOk; kernel_rfl
theorem ci_args_next (a : Value) : argsOk "callable_iterator.__next__" ⟨[a], []⟩ := by unfold argsOk; kernel_rfl
theorem it_kind : builtinKind "iter" = none := by decide +kernel
theorem it_plain : plainId "iter" = true := by decide +kernel
theorem it_entry : entryFor table "iter" = some Builtin.«iter» := entryFor_of_tree (by kernel_rfl)
theorem it_args (a b : Value) : argsOk "iter" ⟨[a, b], []⟩ := by unfold argsOk; kernel_rfl
theorem it_call : ∃ r, typeLookup (.type "method") "__call__" = pure (some r) := ⟨.builtin "method.__call__", by rw [typeLookup_type, builtinLookup_eq_fast]; kernel_rfl⟩

noncomputable abbrev ciObj (q : Addr) (t : Tok) : Obj := { cls := .type "callable_iterator", data := .fields #[.ref q, .str "" t, .bool false] }
noncomputable abbrev ciEnd : Obj := { cls := .type "callable_iterator", data := .fields #[.none, .none, .bool true] }

section
variable {C C' : Cfg} {gl : List (Str × V)} {A : Around} {env : Env} {pos tpos : Pos} {H H' : AH} {Q : V → AH → Prop} {QU : Unit → AH → Prop} {QF : Fl → AH → Prop}
variable {m x f I : Addr} {t : Tok} {QM : V → List V → AH → Prop}

theorem c_iter2 (hm : (m, AO.obj (methodObj (.ref f) (.ref x))) ∈ H) (q : ∀ a t, Q (.ref a) ((a, .obj (ciObj m t)) :: H)) : WPC C A (.bi "iter") [.ref m, .str ""] Q H := wpc_bi fun avs s ra R => by
  obtain ⟨v, w, rfl, r1, r2⟩ := rel2 ra
  simp only [VRel] at r1 r2; subst r1; obtain ⟨t, rfl⟩ := r2
  obtain ⟨ho, _⟩ := R.objs _ hm
  have hT : s.TypeIs (.ref m) "method" := ⟨_, ho, rfl⟩
  obtain ⟨r, hr⟩ := it_call
  refine Calls.call_function_entry it_kind it_plain it_entry (it_args _ _) ?_
  unfold Builtin.«iter»
  refine wpAny_bind (wpAny_of_eq (a := [.ref m, .str "" t]) (by first | rfl | kernel_rfl) ?_)
  dsimp only
  refine wpAny_bind (wpAny_specialOf hT hr ?_)
  simp only [Option.isNone_some, Bool.false_eq_true, if_false]
  refine wpAny_bind (wpAny_rule ?_)
  show wpAny _ _ (newFields _ _ >>= _) _ _ _
  refine wpAny_bind (wpAny_newObj_type ?_ (by size_fits))
  have ext : ∀ b o, s.heap.get? b = some o → (s.heap.push (ciObj m t)).get? b = some o := fun b o e => Heap.get?_push_of_some _ e
  exact wpAny_pure ⟨_, rfl, ⟨_, _, q _ t, rfl, R.add (t := s.toks) ext (Nat.le_refl _) ⟨Heap.get?_push_size _ rfl, notFrozen_cls rfl (by decide) (by decide)⟩, kept_add (t := s.toks) ext (Nat.le_refl _)⟩⟩

theorem wpAny_callBorrowed {M : Model} {A : Around} {E : Value → Shared → Prop} {s : Shared} {f : Value} {pos : List Value} {Q : Value → Shared → Prop}
    (hc : codeAny M A (.call f ⟨pos, []⟩) (fun r s' => match r with | .ok (.ret v) => Q v s' | .ok _ => False | .error e => E e s') s) : wpAny M A (callBorrowed f pos) Q E s := fun Γ p hΓ => by
  have h := wpAny_runValue (Q := Q) (E := E) hc Γ p hΓ
  rw [Sem.wp_runValue] at h
  have e : Sem.wp M Γ (callBorrowed f pos) (fun a _ s' => Q a s') (fun a _ s' => E a s') p s = wpCode M (Γ.enter (.call f ⟨pos, []⟩) none p) (fun r s' => match r with | .ok (.ret v) => Q v s' | .ok _ => False | .error e => E e s') p s := by
    unfold callBorrowed
    rw [Sem.wp]
    congr 1
    funext r s'
    cases r with
    | error e => rfl
    | ok f => cases f <;> rfl
  exact e ▸ h

noncomputable def ORelV (X : List Addr) (h : Heap) (o : Option V) (w : Option Value) : Prop := match o with | some x => ∃ v, w = some v ∧ VRel X h x v | none => w = none
noncomputable def WPN (C : Cfg) (A : Around) (it : Value) (Q : Option V → AH → Prop) (H : AH) : Prop := WP C A (ORelV C.X) (pyNext it) Q H
variable {QN : Option V → AH → Prop}

theorem stop_tail {prog : Program} {w : World} {A : Around} {s : Shared} {Q : Option Value → Shared → Prop} {α : Type} {R : α → Shared → Prop} (hA : A.handled = none)
    (hQ : ∀ e h', (∀ b o, s.heap.get? b = some o → h'.get? b = some o) → (∃ o, h'.get? e = some o ∧ o.cls = .type "StopIteration") → Q none { s with heap := h' }) :
    wpAny (model prog w) A.in1 (Builtin.SmallTypes.stopIteration : Sem α) R (fun x s' => wpAny (model prog w) A (isInstance x (.type "StopIteration") >>= fun b => if b = true then pure none else throw x) Q NoE s') s := by
  unfold Builtin.SmallTypes.stopIteration
  refine wpAny_bind ?_
  simp only [newExc, newTuple]
  refine wpAny_bind (wpAny_newObj_type ?_ (by size_fits))
  refine wpAny_bind (m := firstArgMember _ _) (wpAny_of_eq (a := Value.none) (by first | rfl | (simp only [firstArgMember]; rfl)) ?_)
  refine wpAny_newObj_type ?_ (by size_fits)
  simp only [raiseNew]
  refine wpAny_bind (wpAny_handled ?_)
  rw [show A.in1.handled = none from hA]
  refine wpAny_bind (wpAny_pure (wpAny_throw ?_))
  refine wpAny_bind (wpAny_isInstance (T := "StopIteration") (b := true) ⟨_, Heap.get?_push_size _ rfl, rfl⟩ isSubtype_stop ?_)
  exact wpAny_pure (hQ _ _ (fun b o e => Heap.get?_push_of_some _ (Heap.get?_push_of_some _ e)) ⟨_, Heap.get?_push_size _ rfl, rfl⟩)

theorem nx_end (hA : A.handled = none) (hI : (I, AO.obj ciEnd) ∈ H) (q : QN none H) : WPN C A (.ref I) QN H := fun s R => by
  obtain ⟨ho, _⟩ := R.objs _ hI
  have hT : s.TypeIs (.ref I) "callable_iterator" := ⟨_, ho, rfl⟩
  unfold pyNext
  refine wpAny_bind (wpAny_attempt (wpAny_callSpecial?_slot (name := Str.ofString "__next__") hT ci_next (wpAny_call_entry ci_next hT ci_entry_next ?_ (ci_args_next _))))
  show wpAny _ _ (field (.ref I) 2 >>= _) _ _ _
  refine wpAny_bind (wpAny_field ho rfl (x := .bool true) rfl ?_)
  show wpAny _ _ (if (Value.bool true == Value.bool true) = true then _ else _) _ _ _
  rw [if_pos (by decide)]
  refine wpAny_bind (wpAny_rule ?_)
  refine wpAny_bind (stop_tail hA fun e h' ext _ => ?_)
  exact post_ext (s := s) (tk := s.toks) (x := (none : Option V)) R ext rfl q

noncomputable def CodeC (C : Cfg) (A : Around) (f : Addr) (args : List V) (Q : V → AH → Prop) (H : AH) : Prop :=
  ∀ avs s, VsRel C.X s.heap args avs → Rel C H s → codeAny (model C.prog C.w) A (.call (.ref f) ⟨avs, []⟩) (fun r s' => match r with | .ok (.ret v) => Post C (VRel C.X) Q H s v s' | .ok _ => False | .error e => NoE e s') s
theorem WPC.of_code {args : List V} (hf : ∀ s, Rel C H s → ∃ o fd, s.heap.get? f = some o ∧ o.data = .func fd) (h : CodeC C A f args Q H) : WPC C A (.ref f) args Q H := fun fv avs s rf ra R => by
  simp only [VRel] at rf; subst rf
  obtain ⟨o, fd, ho, hd⟩ := hf s R
  refine ⟨⟨.frame, fun Q' q => ?_⟩, wpAny_call (h avs s ra R)⟩
  unfold keeperOf
  refine wpAny_bind (wpAny_load ho ?_)
  rw [hd]
  exact wpAny_pure q
theorem borrows {M : Model} {E : Value → Shared → Prop} {s : Shared} {o : Obj} {fd : FuncData} {P : Bool → Shared → Prop} {sf : Value} (hm : s.heap.get? m = some (methodObj (.ref f) sf)) (ho : s.heap.get? f = some o) (hd : o.data = .func fd) (h : P true s) :
    wpAny M A (borrowsExactly (.ref m)) P E s := by
  unfold borrowsExactly
  refine wpAny_bind (wpAny_load hm ?_)
  dsimp only
  rw [if_pos (by decide)]
  show wpAny _ _ (load f >>= _) _ _ _
  refine wpAny_bind (wpAny_load ho ?_)
  rw [hd]
  exact wpAny_pure h
theorem CodeC.use {R : Result → Shared → Prop} {args : List V} {avs : List Value} {s : Shared} (h : CodeC C A f args Q H) (ra : VsRel C.X s.heap args avs) (Rl : Rel C H s) (k : ∀ v s', Post C (VRel C.X) Q H s v s' → R (.ok (.ret v)) s') :
    codeAny (model C.prog C.w) A (.call (.ref f) ⟨avs, []⟩) R s := codeAny_mono (h avs s ra Rl) fun r s' hr => by
  rcases r with e | (_ | _ | _ | v)
  · exact hr.elim
  · exact hr.elim
  · exact hr.elim
  · exact hr.elim
  · exact k v s' hr
theorem nx_call (hA : A.handled = none) (hI : (I, AO.obj (ciObj m t)) ∈ H) (hm : (m, AO.obj (methodObj (.ref f) (.ref x))) ∈ H) (hf : ∀ H s, Rel C H s → ∃ o fd, s.heap.get? f = some o ∧ o.data = .func fd)
    (h : CodeC C A.in1 f [.ref x] (fun v H₁ => ∃ c, v = .str c ∧ (I, AO.obj (ciObj m t)) ∈ H₁ ∧ (m, AO.obj (methodObj (.ref f) (.ref x))) ∈ H₁ ∧ (c ≠ "" → QN (some (.str c)) H₁) ∧
      (c = "" → ∃ H₂, Mine.Upd I (.obj (ciObj m t)) (.obj ciEnd) H₁ H₂ ∧ QN none H₂)) H) : WPN C A (.ref I) QN H := fun s R => by
  have ho : s.heap.get? I = some (ciObj m t) := (R.objs _ hI).1
  have hmo : s.heap.get? m = some (methodObj (.ref f) (.ref x)) := (R.objs _ hm).1
  refine E22 (hf H s R) fun of fd hof hfd => ?_
  have hT : s.TypeIs (.ref I) "callable_iterator" := ⟨_, ho, rfl⟩
  unfold pyNext
  refine wpAny_bind (wpAny_attempt (wpAny_callSpecial?_slot (name := Str.ofString "__next__") hT ci_next (wpAny_call_entry ci_next hT ci_entry_next ?_ (ci_args_next _))))
  show wpAny _ _ (field (.ref I) 2 >>= _) _ _ _
  refine wpAny_bind (wpAny_field ho rfl (x := .bool false) rfl ?_)
  show wpAny _ _ (if (Value.bool false == Value.bool true) = true then _ else _) _ _ _
  rw [if_neg (by decide)]
  show wpAny _ _ (field (.ref I) 0 >>= _) _ _ _
  refine wpAny_bind (wpAny_field ho rfl (x := .ref m) rfl ?_)
  refine wpAny_bind (wpAny_attempt ?_)
  unfold callOutOfASlot
  refine wpAny_bind (borrows hmo hof hfd ?_)
  rw [if_pos rfl]
  refine wpAny_callBorrowed (ks_codeAny_call_bound hmo (h.use (.cons rfl .nil) R fun v s₁ p => Post.el p fun v' H₁ q rv R₁ k₁ => E15 q fun c e hI₁ hm₁ q1 q2 => E11 (show ∃ u, v = .str c u by subst e; simpa only [VRel] using rv) fun u e => ?_))
  subst e
  have ho₁ : s₁.heap.get? I = some (ciObj m t) := (R₁.objs _ hI₁).1
  dsimp only
  show wpAny _ _ (field (.ref I) 2 >>= _) _ _ _
  refine wpAny_bind (wpAny_field ho₁ rfl (x := .bool false) rfl ?_)
  show wpAny _ _ (if (Value.bool false == Value.bool true) = true then _ else _) _ _ _
  rw [if_neg (by decide)]
  show wpAny _ _ (field (.ref I) 1 >>= _) _ _ _
  refine wpAny_bind (wpAny_field ho₁ rfl (x := .str "" t) rfl ?_)
  refine wpAny_bind (wpAny_holding (eqBool_str ?_))
  by_cases hc : c = ""
  · subst hc
    rw [if_neg (by decide)]
    refine wpAny_bind (wpAny_rule ?_)
    refine E12 (q2 rfl) fun H₂ hu q => E22 (hf H₁ s₁ R₁) fun of₁ fd₁ hof₁ hfd₁ => wpAny_bind ?_
    show wpAny _ _ (field (.ref I) 0 >>= _) _ _ _
    refine wpAny_bind (wpAny_field ho₁ rfl (x := .ref m) rfl ?_)
    refine wpAny_bind ?_
    unfold slotLetsGo
    refine wpAny_bind (borrows (R₁.objs _ hm₁).1 hof₁ hfd₁ ?_)
    rw [if_pos rfl]
    refine wpAny_pure ?_
    refine wpAny_bind (wpAny_setField_rec ho₁ (by simp) fun h₁ e₁ s₁' => ?_)
    refine wpAny_bind (wpAny_setField_rec e₁ (by simp) fun h₂ e₂ s₂' => ?_)
    refine wpAny_setField_rec e₂ (by simp) fun h₃ e₃ s₃' => ?_
    have e₃' : h₃.get? I = some ciEnd := by simpa using e₃
    have sb := (s₁'.trans s₂').trans s₃'
    have R₂ := R₁.upd (h' := h₃) (t := s₁.toks) hu (fun b o n e => sb.extBut b o n e) (y := .obj ciEnd) ⟨e₃', notFrozen_cls rfl (by decide) (by decide)⟩
    refine stop_tail (s := { s₁ with heap := h₃, toks := s₁.toks }) hA fun e h' ext _ => ?_
    exact ⟨none, H₂, q, rfl, R₂.1.ext (t := s₁.toks) ext, (k₁.trans R₂.2).trans (kept_of_ext (t := s₁.toks) ext)⟩
  · have hne : (("" : Str) == c) = false := beq_eq_false_iff_ne.mpr fun e => hc e.symm
    rw [hne]
    simp only [Bool.not_false, if_true]
    exact wpAny_pure ⟨_, rfl, wpAny_pure ⟨some (.str c), H₁, q1 hc, ⟨_, rfl, u, rfl⟩, R₁, k₁⟩⟩

theorem wp1_ForE {iter : Expr} {y : Str} {py : Pos} {body orelse : List Stmt} (I : Addr) (J : Nat → AH → Prop) (N : Nat)
    (hself : ∀ i H₁ s, J i H₁ → Rel C H₁ s → wpAny (model C.prog C.w) A (pyIter (.ref I)) (fun v s' => v = .ref I ∧ s' = s) NoE s)
    (h0 : WP C A (VRel C.X) (eval iter env) (fun x H₁ => x = .ref I ∧ J 0 H₁) H)
    (h : ∀ i H₁, i ≤ N → J i H₁ → WPN C A (.ref I) (fun r H₂ => match r with
      | some x => i < N ∧ WPA C A env (.Name y py) x (fun _ H₃ => WPS C A env body (TurnEnd (J (i + 1)) QF) H₃) H₂
      | none => WPS C A env orelse QF H₂) H₁)
    (hs : ∀ x, foldedSetIterable iter env x = pure x := by intro _; rfl) : WP1 C A env (.For (.Name y py) iter body orelse pos) QF H := fun s R => by
  refine wpAny_For (hs := hs) (wpAny_mono (h0 s R) (fun v s₁ p138 => Post.el p138 fun x H₁ p139 rv R₁ k₁ => p139.elim fun hx hJ => ?_) fun _ _ e => e.elim)
  subst hx
  simp only [VRel] at rv
  subst rv
  refine wpAny_mono (hself 0 H₁ s₁ hJ R₁) (fun it s₂ ⟨e1, e2⟩ => ?_) fun _ _ e => e.elim
  subst e1 e2
  refine codeAny_mono (codeAny_forLoop_any (R := fun r s' => match r with
      | .ok f => Post C (FRel C.X) QF H s f s' | .error e => False) (WSt C J N H s) (fun n s₁ L => ?_) (N + 1)
    ⟨0, H₁, rfl, Nat.zero_le _, hJ, R₁, k₁⟩) fun r s' hr => ?_
  · cases L with | mk i H₂ hn hi hI R₂ k₂ =>
    refine wpAny_mono (h i H₂ hi hI s₁ R₂) (fun r s₃ p141 => Post.el p141 fun o H₃ q ro R₃ k₃ => ?_) fun _ _ e => e.elim
    cases o with
    | none =>
      cases ro
      exact wpAny_mono (q s₃ R₃) (fun f s₄ p => post_then k₂ (post_then k₃ p)) fun _ _ e => e.elim
    | some x =>
      obtain ⟨v, rfl, rv⟩ := ro
      refine wpAny_of_eq (a := ()) rfl (wpAny_mono (q.2 v s₃ rv R₃) (fun _ s₄ p142 => Post.el p142 fun _ H₄ q₄ _ R₄ k₄ => wpAny_mono (q₄ s₄ R₄) (fun f s₅ p143 => Post.el p143 fun fl H₅ q₅ rf R₅ k₅ => ?_) fun _ _ e => e.elim) fun _ _ e => e.elim)
      have kk := ((k₂.trans k₃).trans k₄).trans k₅
      exact TurnEnd.cases q₅ rf (fun q₃ => ⟨N + 1 - (i + 1), hn ▸ Nat.sub_lt_sub_left (Nat.lt_succ_of_le hi) (Nat.lt_succ_self i), i + 1, H₅, rfl, q.1, q₃, R₅, kk⟩) (fun q => ⟨.next, H₅, q, rfl, R₅, kk⟩) fun u w q rw => ⟨.ret u, H₅, q, ⟨w, rfl, rw⟩, R₅, kk⟩
  · cases r with
    | error e => exact hr.elim
    | ok f => exact hr
theorem ci_self {o : Obj} (hc : o.cls = .type "callable_iterator") (hI : (I, AO.obj o) ∈ H) {s : Shared} (R : Rel C H s) : wpAny (model C.prog C.w) A (pyIter (.ref I)) (fun v s' => v = .ref I ∧ s' = s) NoE s := by
  obtain ⟨ho, _⟩ := R.objs _ hI
  have hT : s.TypeIs (.ref I) "callable_iterator" := ⟨_, ho, hc⟩
  refine wpAny_pyIter_slot hT ci_iter (wpAny_call_entry ci_iter hT ci_entry_iter ?_ (ci_args_iter _))
  show wpAny _ _ (ret (.ref I)) _ _ s
  exact wpAny_pure ⟨_, rfl, "callable_iterator", _, hT, ci_next.lookup, rfl, rfl⟩
end
end
noncomputable section
noncomputable def args0 (as : List Arg) : Arguments := ⟨[], as, none, [], [], none, []⟩
theorem zip_lookup_mem : ∀ {pn : List Str} {vs : List Value} {n : Str}, vs.length = pn.length → n ∈ pn → ((pn.zip vs).lookup n).isNone = false
  | [], _, _, _, h => nomatch h
  | p :: pn, [], _, e, _ => by simp at e
  | p :: pn, v :: vs, n, e, h => by
    rw [List.zip_cons_cons, List.lookup_cons]
    cases q : n == p with
    | true => rfl
    | false =>
      rcases List.mem_cons.mp h with rfl | h
      · simp at q
      · exact zip_lookup_mem (by simpa using e) h
theorem zip_filterMap : ∀ {pn : List Str} {vs : List Value}, pn.Nodup → vs.length = pn.length → (pn.filterMap fun n => ((pn.zip vs).lookup n).map (n, ·)) = pn.zip vs := by
  intro pn vs nd e
  have key : ∀ (l : List (Str × Value)), (l.map (·.1)).Nodup → ((l.map (·.1)).filterMap fun n => (l.lookup n).map (n, ·)) = l := by
    intro l hl
    have : ∀ (l' : List (Str × Value)), (∀ p ∈ l', l.lookup p.1 = some p.2) → ((l'.map (·.1)).filterMap fun n => (l.lookup n).map (n, ·)) = l' := by
      intro l'
      induction l' with
      | nil => intro _; rfl
      | cons p l' ih =>
        intro h
        rw [List.map_cons, List.filterMap_cons, h p (.head _)]
        simp only [Option.map_some]
        rw [ih fun q hq => h q (.tail _ hq)]
    exact this l fun p hp => lookup_of_mem hl hp
  have hm : (pn.zip vs).map (·.1) = pn := List.map_fst_zip (Nat.le_of_eq e.symm)
  have := key (pn.zip vs) (by rw [hm]; exact nd)
  rw [hm] at this; exact this
theorem binds_all {F : FnA} {as : List Arg} (h : F.params = args0 as) (nd : (as.map (·.arg)).Nodup) : Binds F (as.map (·.arg)) := by
  intro fd vs hp hd hk hl
  obtain ⟨⟩ := fd
  dsimp only at hp hd hk
  subst hp hd hk
  rw [h]
  have h1 : ¬ (as.map (·.arg)).length < vs.length := by omega
  have h2 : ((as.map (·.arg)).filter fun n => (((as.map (·.arg)).zip vs).lookup n).isNone) = [] := List.filter_eq_nil_iff.mpr fun n hn => by rw [zip_lookup_mem hl hn]; decide
  have h3 := zip_filterMap nd hl
  unfold bindArgs args0
  dsimp only
  rw [show seqItems? Value.none = pure none from rfl]
  simp only [List.map_nil, List.nil_append, List.append_nil, List.forIn_nil, pure_bind, Option.isNone_none, Bool.and_true, Option.getD_none, List.drop_nil, List.length_nil, Nat.sub_zero, List.take_length, List.drop_length, List.zip_nil_left, gt_iff_lt, h1, decide_false, Bool.false_eq_true, if_false, h2, List.isEmpty_nil, Bool.not_true, h3]


theorem binds_of {F : FnA} {as : List Arg} {pn : List Str} (h : F.params = args0 as) (e : as.map (·.arg) = pn) (nd : pn.Nodup) : Binds F pn := e ▸ binds_all h (e.symm ▸ nd)

noncomputable abbrev dbg (x : Str) : Prop := (x == ("__debug__" : Str)) = false ∧ (x == ("__classdict__" : Str)) = false
structure FnOk (F : FnA) (pn ln gn cn fn : List Str) : Prop where
  binds : Binds F pn
  hl : ∀ x ∈ ln, F.scope.names.lookup x = some .local ∧ dbg x
  hg : ∀ x ∈ gn, F.scope.names.lookup x = some .globalImplicit ∧ dbg x
  hc : ∀ x ∈ cn, F.scope.names.lookup x = some .cell ∧ dbg x
  hf : ∀ x ∈ fn, F.scope.names.lookup x = some .free ∧ dbg x
  nd : ln.Nodup
  ndp : pn.Nodup
  ndc : cn.Nodup
  ndf : fn.Nodup
  allc : ∀ x ∈ F.scope.names, x.2 = .cell → x.1 ∈ cn
  pk : ∀ x ∈ pn, x ∈ ln ∨ x ∈ cn
  cells : ∀ L, (cellsFrom (L + 1) F.scope.names []).map (·.1) = cn
  co : F.scope.isCoroutine = false
  gen : F.scope.isGenerator = false
  kind : F.scope.kind = .function

theorem FnOk.cellsLook {F : FnA} {pn ln gn cn fn : List Str} (O : FnOk F pn ln gn cn fn) (L : Addr) {p : Str × Addr} (h : p ∈ cellsFrom (L + 1) F.scope.names []) : p.1 ∈ cn ∧ (cellsFrom (L + 1) F.scope.names []).lookup p.1 = some p.2 :=
  ⟨O.cells L ▸ List.mem_map_of_mem (f := Prod.fst) h, lookup_of_mem (by rw [O.cells L]; exact O.ndc) h⟩

theorem FnOk.env {F : FnA} {pn ln gn fn : List Str} (O : FnOk F pn ln gn [] fn) (L fa : Addr) (cd : Value) (hclo : F.closure.map (·.1) = fn) : FEnv (envF F L fa cd F.closure) L ln F.closure gn where
  kind := O.kind
  loc := rfl
  glob := rfl
  blt := rfl
  hl := fun x hx => let ⟨a, b, _⟩ := O.hl x hx; ⟨a, b⟩
  hc := fun p hp => let ⟨a, b, c⟩ := O.hf p.1 (hclo ▸ List.mem_map_of_mem (f := Prod.fst) hp); ⟨.inr a, lookup_of_mem (by show (F.closure.map (·.1)).Nodup; rw [hclo]; exact O.ndf) hp, b, c⟩
  hg := fun x hx => let ⟨a, b, _⟩ := O.hg x hx; ⟨a, b⟩
theorem FnOk.envC {F : FnA} {pn ln gn cn : List Str} (O : FnOk F pn ln gn cn []) (L fa : Addr) (cd : Value) : FEnv (envF F L fa cd (cellsFrom (L + 1) F.scope.names [])) L ln (cellsFrom (L + 1) F.scope.names []) gn where
  kind := O.kind
  loc := rfl
  glob := rfl
  blt := rfl
  hl := fun x hx => let ⟨a, b, _⟩ := O.hl x hx; ⟨a, b⟩
  hc := fun p hp => let ⟨h1, h2⟩ := O.cellsLook L hp; let ⟨a, b, c⟩ := O.hc p.1 h1; ⟨.inl a, h2, b, c⟩
  hg := fun x hx => let ⟨a, b, _⟩ := O.hg x hx; ⟨a, b⟩

section
variable {C : Cfg} {gl : List (Str × V)} {A : Around} {H H' : AH} {Q : V → AH → Prop}

theorem code_ok {fa : Addr} {F : FnA} {D : Value → Prop} {pn ln gn fn : List Str} {xs : List V} {vals : List (Option V)} {body : List Stmt} {n : Nat} (O : FnOk F pn ln gn [] fn)
    (G : C.Ok gl) (hF : ∀ s, Rel C H s → ∃ cd, D cd ∧ FnAt s.heap fa F cd) (hroom : Room A (n + 1)) (hb : F.body = .stmts body) (hp : ln.take xs.length = pn) (i : Init ln xs vals) {cl : List (Str × Addr)} (hcl : F.closure = cl) (hclo : cl.map (·.1) = fn)
    (h : ∀ L cd A' env, Room A' n → D cd → FEnv env L ln cl gn → env = envF F L fa cd F.closure → WPS C A' env body (fun fl H₁ => ∃ H₂, Sub H₂ H₁ ∧ Q fl.val H₂) ((L, .ns ln vals) :: H)) :
    CodeC C A fa xs Q H :=
  code_fn G hF hroom hb (hp ▸ O.binds) (fun x hx => (O.hl x hx).1) O.nd (fun x hx e => nomatch O.allc x hx e) i (fun L cd hD => h L cd _ _ (hroom.deeper _) hD (hcl ▸ O.env L fa cd (hcl.symm ▸ hclo)) rfl) O.co O.gen O.kind
theorem call_ok {fa : Addr} {F : FnA} {D : Value → Prop} {pn ln gn fn : List Str} {xs : List V} {vals : List (Option V)} {body : List Stmt} {n : Nat} (O : FnOk F pn ln gn [] fn)
    (G : C.Ok gl) (hF : ∀ s, Rel C H s → ∃ cd, D cd ∧ FnAt s.heap fa F cd) (hroom : Room A (n + 1)) (hb : F.body = .stmts body) (hp : ln.take xs.length = pn) (i : Init ln xs vals) {cl : List (Str × Addr)} (hcl : F.closure = cl) (hclo : cl.map (·.1) = fn)
    (h : ∀ L cd A' env, Room A' n → D cd → FEnv env L ln cl gn → env = envF F L fa cd F.closure → WPS C A' env body (fun fl H₁ => ∃ H₂, Sub H₂ H₁ ∧ Q fl.val H₂) ((L, .ns ln vals) :: H)) :
    WPC C A (.ref fa) xs Q H :=
  WPC.of_code (fun s R => (hF s R).elim fun cd p => p.2.ex.elim fun o p => p.elim fun fd q => ⟨o, fd, q.get, q.dat⟩) (code_ok O G hF hroom hb hp i hcl hclo h)
theorem call_okE {fa : Addr} {F : FnA} {D : Value → Prop} {pn ln gn fn : List Str} {xs : List V} {vals : List (Option V)} {body : Expr} {n : Nat} (O : FnOk F pn ln gn [] fn)
    (G : C.Ok gl) (hF : ∀ s, Rel C H s → ∃ cd, D cd ∧ FnAt s.heap fa F cd) (hroom : Room A (n + 1)) (hb : F.body = .expr body) (hp : ln.take xs.length = pn) (i : Init ln xs vals) {cl : List (Str × Addr)} (hcl : F.closure = cl) (hclo : cl.map (·.1) = fn)
    (h : ∀ L cd A' env, Room A' n → D cd → FEnv env L ln cl gn → env = envF F L fa cd F.closure → WP C A' (VRel C.X) (eval body env) (fun v H₁ => ∃ H₂, Sub H₂ H₁ ∧ Q v H₂) ((L, .ns ln vals) :: H)) :
    WPC C A (.ref fa) xs Q H :=
  call_fnE G hF hroom hb (hp ▸ O.binds) (fun x hx => (O.hl x hx).1) O.nd (fun x hx e => nomatch O.allc x hx e) i (fun L cd hD => h L cd _ _ (hroom.deeper _) hD (hcl ▸ O.env L fa cd (hcl.symm ▸ hclo)) rfl) O.co O.gen O.kind
theorem code_okC {fa : Addr} {F : FnA} {cd : Value} {pn ln gn cn : List Str} {xs : List V} {vals : List (Option V)} {body : List Stmt} {n : Nat} (O : FnOk F pn ln gn cn [])
    (G : C.Ok gl) (hF : ∀ s, Rel C H s → FnAt s.heap fa F cd) (hroom : Room A (n + 1)) (hb : F.body = .stmts body) (hclo : F.closure = []) (hpl : pn.length = xs.length)
    (hv : ln.length = vals.length) (hvals : ∀ (k : Nat) x u, ln[k]? = some x → vals[k]? = some (some u) → At pn (xs.map some) x u)
    (h : ∀ L cs A' env, cs.map (·.1) = cn → Room A' n → FEnv env L ln cs gn → env = envF F L fa cd cs → ∃ Hc, CInit pn (xs.map some) cs Hc ∧ WPS C A' env body (fun fl H₁ => ∃ H₂, Sub H₂ H₁ ∧ Q fl.val H₂) (Hc ++ (L, .ns ln vals) :: H)) :
    CodeC C A fa xs Q H :=
  code_fnC G hF hroom hb hclo O.binds hpl O.ndp (fun x hx => (O.hl x hx).1) O.nd (fun x hx => by
      rcases O.pk x hx with h | h
      · exact .inl (O.hl x h).1
      · exact .inr (O.hc x h).1)
    (fun L x hx hk => by
      have hm : x ∈ cn := by
        rcases O.pk x hx with h | h
        · rw [(O.hl x h).1] at hk; cases hk
        · exact h
      rw [← O.cells L] at hm
      obtain ⟨p, hp, rfl⟩ := List.mem_map.mp hm
      rw [(O.cellsLook L hp).2]; rfl)
    (fun L p hp => ⟨(O.hc p.1 (O.cellsLook L hp).1).1, (O.cellsLook L hp).2⟩) hv hvals
    (fun L => by
      obtain ⟨Hc, ci, hw⟩ := h L _ _ _ (O.cells L) (hroom.deeper _) (O.envC L fa cd) rfl
      exact ⟨Hc, ci, hw⟩) O.co O.gen O.kind
theorem call_okC {fa : Addr} {F : FnA} {cd : Value} {pn ln gn cn : List Str} {xs : List V} {vals : List (Option V)} {body : List Stmt} {n : Nat} (O : FnOk F pn ln gn cn [])
    (G : C.Ok gl) (hF : ∀ s, Rel C H s → FnAt s.heap fa F cd) (hroom : Room A (n + 1)) (hb : F.body = .stmts body) (hclo : F.closure = []) (hpl : pn.length = xs.length)
    (hv : ln.length = vals.length) (hvals : ∀ (k : Nat) x u, ln[k]? = some x → vals[k]? = some (some u) → At pn (xs.map some) x u)
    (h : ∀ L cs A' env, cs.map (·.1) = cn → Room A' n → FEnv env L ln cs gn → env = envF F L fa cd cs → ∃ Hc, CInit pn (xs.map some) cs Hc ∧ WPS C A' env body (fun fl H₁ => ∃ H₂, Sub H₂ H₁ ∧ Q fl.val H₂) (Hc ++ (L, .ns ln vals) :: H)) :
    WPC C A (.ref fa) xs Q H :=
  WPC.of_code (fun s R => (hF s R).ex.elim fun o p => p.elim fun fd q => ⟨o, fd, q.get, q.dat⟩) (code_okC O G hF hroom hb hclo hpl hv hvals h)

structure CpOk (sc : Scope) (ln gn fn : List Str) : Prop where
  hl : ∀ x ∈ ln, sc.names.lookup x = some .local ∧ dbg x
  hg : ∀ x ∈ gn, sc.names.lookup x = some .globalImplicit ∧ dbg x
  hf : ∀ x ∈ fn, sc.names.lookup x = some .free ∧ dbg x
  all : ∀ x ∈ sc.names, x.2 = .free → x.1 ∈ fn
  nocell : ∀ x ∈ sc.names, x.2 ≠ .cell
  nodup : (sc.names.map (·.1)).Nodup
  nd : ln.Nodup
  kind : sc.kind = .function

theorem closure_go {env : Env} {cn : List (Str × Addr)} (hc : ∀ p ∈ cn, env.cells.lookup p.1 = some p.2) : ∀ (names : List (Str × NameKind)) (fs : List Str) (cs : List Addr) (acc : List (Str × Addr)),
    (names.filter (·.2 == .free)).map (·.1) = fs → fs.length = cs.length → (∀ p ∈ fs.zip cs, p ∈ cn) →
    (forIn names acc (fun x r => if (x.2 == NameKind.free) = true then (do let a ← cellOf env x.1; pure (ForInStep.yield ((x.1, a) :: r))) else pure (ForInStep.yield r)) : Sem (List (Str × Addr))) = pure ((fs.zip cs).reverse ++ acc)
  | [], fs, cs, acc, e, _, _ => by subst e; rfl
  | (n, k) :: names, fs, cs, acc, e, hl, hm => by
    rw [List.forIn_cons]
    by_cases hk : (k == NameKind.free) = true
    · rw [List.filter_cons_of_pos (by simpa using hk)] at e
      cases fs with
      | nil => simp at e
      | cons f fs =>
        cases cs with
        | nil => simp at hl
        | cons c cs =>
          simp only [List.map_cons, List.cons.injEq] at e
          obtain ⟨rfl, e⟩ := e
          have h1 := hc _ (hm (n, c) (by simp))
          have h2 : cellOf env n = pure c := by
            unfold cellOf
            simp only [] at h1
            rw [h1]
          dsimp only
          rw [if_pos hk, h2]
          simp only [pure_bind]
          rw [closure_go hc names fs cs _ e (by simpa using hl) fun p hp => hm p (by simp [hp])]
          simp
    · rw [List.filter_cons_of_neg (by simpa using hk)] at e
      dsimp only
      rw [if_neg hk]
      simp only [pure_bind]
      exact closure_go hc names fs cs acc e hl hm
theorem closure_of {env : Env} {L : Addr} {ln gn fs : List Str} {cn : List (Str × Addr)} {cs : List Addr} {sc : Scope} (FE : FEnv env L ln cn gn) (e : (sc.names.filter (·.2 == .free)).map (·.1) = fs) (hl : fs.length = cs.length) (hm : ∀ p ∈ fs.zip cs, p ∈ cn) :
    closureFor sc env = pure (fs.zip cs).reverse := by
  have := closure_go (fun p hp => (FE.hc p hp).2.1) sc.names fs cs [] e hl hm
  show ((forIn sc.names [] (fun x r => if (x.2 == NameKind.free) = true then (do let a ← cellOf env x.1; pure (ForInStep.yield ((x.1, a) :: r))) else pure (ForInStep.yield r)) : Sem (List (Str × Addr))) >>= fun r => pure r) = _
  rw [this]
  simp

theorem lookup_relabel {env : Env} : ∀ (names : List (Str × NameKind)) (x : Str),
    (names.map fun (n, k) => if (k == NameKind.free && env.scope.kind == .function && env.kindOf n == some .cell) then (n, NameKind.cell) else (n, k)).lookup x =
      (names.lookup x).map fun k => if (k == NameKind.free && env.scope.kind == .function && env.kindOf x == some .cell) then NameKind.cell else k
  | [], x => rfl
  | (n, k) :: r, x => by
    rw [List.map_cons, List.lookup_cons, List.lookup_cons]
    by_cases hc : (k == NameKind.free && env.scope.kind == .function && env.kindOf n == some .cell) = true
    · rw [if_pos hc]
      dsimp only
      cases q : x == n with
      | true =>
        have : x = n := beq_iff_eq.mp q
        subst this
        simp only [Option.map_some, if_pos hc]
      | false => exact lookup_relabel r x
    · rw [if_neg hc]
      dsimp only
      cases q : x == n with
      | true =>
        have : x = n := beq_iff_eq.mp q
        subst this
        simp only [Option.map_some, if_neg hc]
      | false => exact lookup_relabel r x
theorem CpOk.env {env : Env} {L L' : Addr} {ln ln' gn gn' fs : List Str} {cn : List (Str × Addr)} {cs : List Addr} {sc : Scope} (O : CpOk sc ln gn fs) (FE : FEnv env L' ln' cn gn') (hl : fs.length = cs.length) (ndf : fs.Nodup) :
    FEnv (compEnvC sc (fs.zip cs).reverse L env) L ln (fs.zip cs).reverse gn where
  kind := O.kind
  loc := rfl
  glob := FE.glob
  blt := FE.blt
  hl := fun x hx => by
    obtain ⟨a, b, _⟩ := O.hl x hx
    refine ⟨?_, b⟩
    show List.lookup x (relabel sc env).names = _
    unfold relabel
    rw [lookup_relabel, a]; rfl
  hg := fun x hx => by
    obtain ⟨a, b, _⟩ := O.hg x hx
    refine ⟨?_, b⟩
    show List.lookup x (relabel sc env).names = _
    unfold relabel
    rw [lookup_relabel, a]; rfl
  hc := fun p hp => by
    have hm : (fs.zip cs).map (·.1) = fs := List.map_fst_zip (Nat.le_of_eq hl)
    have hp' : p ∈ fs.zip cs := List.mem_reverse.mp hp
    obtain ⟨a, b, c⟩ := O.hf p.1 (hm ▸ List.mem_map_of_mem (f := Prod.fst) hp')
    refine ⟨?_, lookup_rev (by rw [hm]; exact ndf) hp', b, c⟩
    show List.lookup p.1 (relabel sc env).names = _ ∨ List.lookup p.1 (relabel sc env).names = _
    unfold relabel
    rw [lookup_relabel, a]
    simp only [Option.map_some]
    split
    · exact .inl rfl
    · exact .inr rfl

variable {env : Env} {L : Addr} {ln gn : List Str} {cn : List (Str × Addr)} {pos tpos : Pos} {QF : Fl → AH → Prop}
theorem nodup_lookup {sc : Scope} (nd : (sc.names.map (·.1)).Nodup) : ∀ x ∈ sc.names, x.2 = .local → sc.names.lookup x.1 = some .local := fun x hx e => by
  rw [← e]; exact lookup_of_mem nd hx
theorem FEnv.block (FE : FEnv env L ln cn gn) : env.blockKind = .function := by
  unfold Env.blockKind
  rw [FE.kind]; rfl
theorem FEnv.inter (FE : FEnv env L ln cn gn) : interactive env = false := by
  unfold interactive
  rw [FE.kind]; rfl
theorem swaps_true (FE : FEnv env L ln cn gn) {elt : Expr} {gens : List Comprehension} {scope : Scope} {p tp : Pos} {t : Str} {l : Nat} (ht : t ∈ ln) (hline : (tp.line == p.line) = true) (hn : (scope.names.any fun x => x.1 == t && (x.2 == .local || x.2 == .cell)) = false) :
    swapsWith (.ListComp elt gens scope p) (some (.Name t tp)) l env = pure true := by
  have h1 := FE.block
  have h2 := (FE.hl t ht).1
  show pure (env.blockKind == .function && env.kindOf t == some .local && tp.line == p.line && !(scope.names.any fun x => x.1 == t && (x.2 == .local || x.2 == .cell))) = _
  rw [h1, h2, hline, hn]; rfl

theorem wp_LC {elt target iter : Expr} {ifs : List Expr} {scope : Scope} {fs ln' gn' : List Str} {cs : List Addr} (FE : FEnv env L ln cn gn) (O : CpOk scope ln' gn' fs) (e : (scope.names.filter (·.2 == .free)).map (·.1) = fs) (hm : ∀ p ∈ fs.zip cs, p ∈ cn)
    (h : WPI C A env iter target (fun C' Item H₁ => ∀ a c cenv, FEnv cenv c ln' (fs.zip cs).reverse gn' → CompTurns C C' A cenv target ifs elt a Item
      (fun acc H₂ => ∃ vals H₃, Pick (c, .ns ln' vals) H₂ H₃ ∧ Q (.ref a) H₃) ((c, .ns ln' (ln'.map fun _ => none)) :: (a, .list []) :: H₁)) H)
    (hl : fs.length = cs.length := by with_unfolding_all rfl) (ndf : fs.Nodup := by decide +kernel)
    (hs : ∀ x, foldedSetIterable iter env x = pure x := by intro _; with_unfolding_all rfl) :
    WP C A (VRel C.X) (eval (.ListComp elt [⟨target, iter, ifs, 0⟩] scope pos) env) Q H :=
  wp_ListComp (closure_of FE e hl hm) O.nocell O.kind (nodup_lookup O.nodup) O.nd (h.mono fun _ _ _ q a c => q a c _ (O.env FE hl ndf)) hs
theorem wp1_LC {elt target iter : Expr} {ifs : List Expr} {scope : Scope} {fs ln' gn' : List Str} {cs : List Addr} {y : Str} {py spos : Pos} (FE : FEnv env L ln cn gn) (O : CpOk scope ln' gn' fs) (e : (scope.names.filter (·.2 == .free)).map (·.1) = fs) (hm : ∀ p ∈ fs.zip cs, p ∈ cn)
    (hy : y ∈ ln) (hn : (scope.names.any fun x => x.1 == y && (x.2 == .local || x.2 == .cell)) = false)
    (h : WPI C A env iter target (fun C' Item H₁ => ∀ a c cenv, FEnv cenv c ln' (fs.zip cs).reverse gn' → CompTurns C C' A cenv target ifs elt a Item
      (fun acc H₂ => Op1 C A URel (storeName env y) (.ref a) (fun _ H₃ => ∃ vals H₄, Pick (c, .ns ln' vals) H₃ H₄ ∧ QF .next H₄) H₂) ((c, .ns ln' (ln'.map fun _ => none)) :: (a, .list []) :: H₁)) H)
    (hline : (py.line == pos.line) = true := by with_unfolding_all rfl) (hl : fs.length = cs.length := by with_unfolding_all rfl) (ndf : fs.Nodup := by decide +kernel)
    (hs : ∀ x, foldedSetIterable iter env x = pure x := by intro _; with_unfolding_all rfl) :
    WP1 C A env (.Assign [.Name y py] (.ListComp elt [⟨target, iter, ifs, 0⟩] scope pos) spos) QF H :=
  wp1_Assign_ListComp (swaps_true FE hy hline hn) (closure_of FE e hl hm) O.nocell O.kind (nodup_lookup O.nodup) O.nd (h.mono fun _ _ _ q a c => q a c _ (O.env FE hl ndf)) hs
noncomputable def notStar : Expr → Bool
  | .Starred .. => false
  | _ => true
theorem swap2 (FE : FEnv env L ln cn gn) {a b : Str} {pa pb p p' : Pos} {k k' : Nat} {x y : Expr} (ha : a ∈ ln) (hb : b ∈ ln) (hab : (a == b) = false) (h1 : (pb.line == pa.line) = true) (hx : notStar x = true) (hy : notStar y = true)
    (hf : ([x, y].all (foldedForSure 8)) = false) (hc : ([x, y].all (constantsAlone 8)) = false) :
    swappedStores [.Tuple [.Name a pa, .Name b pb] k p] (.Tuple [x, y] k' p') env = pure (some [a, b]) := by
  have e1 := FE.block
  have e2 := (FE.hl a ha).1
  have e3 := (FE.hl b hb).1
  unfold swappedStores
  have he : [a, b].eraseDups = [a, b] := by
    have : (b == a) = false := by rw [beq_eq_false_iff_ne] at hab ⊢; exact fun e => hab e.symm
    simp [List.eraseDups_cons, this]
  dsimp only
  rw [e1, if_neg (by simp)]
  have hs : ∀ z, notStar z = true → (match z with | Expr.Starred _ _ => true | _ => false) = false := by intro z hz; cases z <;> first | rfl | cases hz
  have h3 : ([x, y].any fun x => match x with | Expr.Starred _ _ => true | _ => false) = false := by
    rw [List.any_cons, List.any_cons, List.any_nil, hs x hx, hs y hy]; rfl
  refine (if_neg (by intro h; exact Bool.false_ne_true (h3.symm.trans h))).trans ?_
  generalize hL : List.filterMap _ [Expr.Name a pa, Expr.Name b pb] = l
  have hl : l = [a, b] := by
    rw [← hL]
    have h2 : ((Option.map (fun x : Expr => x.pos.line) [Expr.Name a pa, Expr.Name b pb].head?).getD 0) = pa.line := rfl
    rw [h2]
    simp only [List.filterMap_cons, List.filterMap_nil, e2, e3, h1, beq_self_eq_true, Bool.and_self, if_true]
  subst hl
  rw [if_neg (by rw [he]; simp), if_neg (by rw [hf]; decide), if_neg (by rw [hc]; decide)]
end
end
noncomputable section
-- plain facts: digits, splices, bits
noncomputable def digs (x n k : Nat) : List Nat := (List.range k).map fun i => x / 2 ^ (n * i) % 2 ^ n
theorem digs_length (x n k : Nat) : (digs x n k).length = k := by simp [digs]
theorem digs_one {x n : Nat} (h : x < 2 ^ n) : digs x n 1 = [x] := by simp [digs, Nat.mod_eq_of_lt h]
theorem digs_add (x n j k : Nat) : digs x n (j + k) = digs (x % 2 ^ (n * j)) n j ++ digs (x / 2 ^ (n * j)) n k := by
  unfold digs
  rw [List.range_add, List.map_append]
  congr 1
  · refine List.map_congr_left fun i hi => ?_
    have hi : i < j := List.mem_range.mp hi
    have h1 : n * j = n * i + n * (j - i) := by rw [← Nat.mul_add, Nat.add_sub_cancel' (Nat.le_of_lt hi)]
    rw [h1, Nat.pow_add, Nat.mod_mul_right_div_self]
    have h2 : n * (j - i) = n + n * (j - i - 1) := by
      have : j - i = 1 + (j - i - 1) := (Nat.add_sub_cancel' (Nat.sub_pos_of_lt hi)).symm
      rw [this, Nat.mul_add]; simp
    rw [h2, Nat.pow_add, Nat.mod_mul_right_mod]
  · rw [List.map_map]
    refine List.map_congr_left fun i _ => ?_
    show x / 2 ^ (n * (j + i)) % 2 ^ n = _
    rw [Nat.mul_add, Nat.pow_add, Nat.div_div_eq_div_mul]
noncomputable def splice {α : Type} (vs : List α) (i : Nat) (D : List α) : List α := vs.take i ++ D ++ vs.drop (i + D.length)
theorem splice_length {α : Type} {vs : List α} {i : Nat} {D : List α} (h : i + D.length ≤ vs.length) : (splice vs i D).length = vs.length := by
  rw [splice, List.length_append, List.length_append, List.length_take, List.length_drop, Nat.min_eq_left (Nat.le_trans (Nat.le_add_right _ _) h)]; exact Nat.add_sub_cancel' h
theorem splice_one {α : Type} {vs : List α} {i : Nat} {x : α} (h : i < vs.length) : vs.set i x = splice vs i [x] := by
  rw [splice, List.set_eq_take_append_cons_drop, if_pos h]; simp
theorem splice_splice {α : Type} {vs : List α} {i : Nat} {D E : List α} (h : i + D.length + E.length ≤ vs.length) : splice (splice vs i D) (i + D.length) E = splice vs i (D ++ E) := by
  have h1 : (vs.take i).length = i := by rw [List.length_take]; exact Nat.min_eq_left (Nat.le_trans (Nat.le_add_right _ _) (Nat.le_trans (Nat.le_add_right _ _) h))
  unfold splice
  have h2 : List.take (i + D.length) (vs.take i ++ D ++ vs.drop (i + D.length)) = vs.take i ++ D := by
    rw [List.take_append_of_le_length (by simp; lia)]
    exact List.take_of_length_le (by simp; lia)
  have h3 : List.drop (i + D.length + E.length) (vs.take i ++ D ++ vs.drop (i + D.length)) = vs.drop (i + (D ++ E).length) := by
    rw [List.drop_append]
    have e1 : (vs.take i ++ D).length = i + D.length := by simp; lia
    rw [e1, List.drop_of_length_le (by rw [e1]; lia), List.nil_append, List.drop_drop, List.length_append]
    congr 1
    rw [Nat.add_sub_cancel_left, Nat.add_assoc]
  rw [h2, h3]
  simp
theorem and_high (x s : Nat) : x &&& (x / 2 ^ s * 2 ^ s) = x / 2 ^ s * 2 ^ s := by
  refine Nat.eq_of_testBit_eq fun i => ?_
  rw [Nat.testBit_and, ← Nat.shiftRight_eq_div_pow, ← Nat.shiftLeft_eq, Nat.testBit_shiftLeft, Nat.testBit_shiftRight]
  by_cases h : s ≤ i
  · have : s + (i - s) = i := by lia
    simp [h, this]
  · simp [h]
theorem xor_low (x s : Nat) : Builtin.bitXor (x : Int) ((x / 2 ^ s * 2 ^ s : Nat) : Int) = ((x % 2 ^ s : Nat) : Int) := by
  rw [bitXor_and]
  have h : Builtin.bitAnd (x : Int) ((x / 2 ^ s * 2 ^ s : Nat) : Int) = ((x / 2 ^ s * 2 ^ s : Nat) : Int) := by
    unfold Builtin.bitAnd
    have h1 : decide (0 ≤ (x : Int)) = true := by simp
    have h2 : decide (0 ≤ ((x / 2 ^ s * 2 ^ s : Nat) : Int)) = true := decide_eq_true (Int.natCast_nonneg _)
    rw [h1, h2]
    show (((x : Int).toNat &&& ((x / 2 ^ s * 2 ^ s : Nat) : Int).toNat : Nat) : Int) = _
    rw [Int.toNat_natCast, Int.toNat_natCast, and_high]
  rw [h]
  have := Nat.div_add_mod x (2 ^ s)
  have h3 : 2 ^ s * (x / 2 ^ s) = x / 2 ^ s * 2 ^ s := Nat.mul_comm ..
  lia
theorem shr_nat (x s : Nat) : (x : Int).fdiv (2 ^ (s : Int).toNat) = ((x / 2 ^ s : Nat) : Int) := by
  rw [Int.toNat_natCast, Int.fdiv_eq_ediv_of_nonneg _ (by exact_mod_cast Nat.zero_le _)]
  norm_cast
theorem shl_nat (x s : Nat) : (x : Int) * 2 ^ (s : Int).toNat = ((x * 2 ^ s : Nat) : Int) := by
  rw [Int.toNat_natCast]; norm_cast
theorem Upd.of_split {a : Addr} {x y : AO} : ∀ {pre post : AH}, Upd a x y (pre ++ (a, x) :: post) (pre ++ (a, y) :: post)
  | [], _ => .head
  | _ :: pre, _ => .tail (Upd.of_split (pre := pre))

theorem bits_lt (x : Nat) : x < 2 ^ Builtin.Int.intBits (x : Int) := by
  unfold Builtin.Int.intBits
  split
  · rename_i h
    have : x = 0 := by simpa using h
    subst this; decide
  · exact Nat.lt_log2_self
theorem bits_pos {x : Nat} (h : x ≠ 0) : 0 < Builtin.Int.intBits (x : Int) := by
  unfold Builtin.Int.intBits
  rw [if_neg (by simpa using h)]; lia
noncomputable def ndig (x n : Nat) : Nat := (Builtin.Int.intBits (x : Int) + n - 1) / n
theorem lt_ndig {x n : Nat} (hn : 1 ≤ n) : x < 2 ^ (n * ndig x n) := by
  refine Nat.lt_of_lt_of_le (bits_lt x) (Nat.pow_le_pow_right (by decide) ?_)
  unfold ndig
  have h1 := Nat.div_add_mod (Builtin.Int.intBits (x : Int) + n - 1) n
  have h2 := Nat.mod_lt (Builtin.Int.intBits (x : Int) + n - 1) (show 0 < n by lia)
  lia
theorem ndig_pos {x n : Nat} (hn : 1 ≤ n) (h : x ≠ 0) : 0 < ndig x n := by
  unfold ndig
  exact Nat.div_pos (by rw [Nat.add_comm]; exact Nat.le_sub_of_add_le (Nat.add_le_add_left (bits_pos h) n)) hn
theorem ndig_le {x n k : Nat} (hn : 1 ≤ n) (h : x < 2 ^ (n * k)) : ndig x n ≤ k := by
  unfold ndig
  have h1 : Builtin.Int.intBits (x : Int) ≤ n * k := intBits_le (by rw [Int.natAbs_natCast]; exact h)
  have h2 : Builtin.Int.intBits (x : Int) + n - 1 ≤ n * k + (n - 1) := by rw [Nat.add_sub_assoc hn]; exact Nat.add_le_add_right h1 _
  refine Nat.le_trans (Nat.div_le_div_right h2) ?_
  rw [Nat.mul_add_div (by lia)]
  have : (n - 1) / n = 0 := Nat.div_eq_of_lt (by lia)
  lia
theorem fdiv_nat (a b : Nat) : (a : Int).fdiv (b : Int) = ((a / b : Nat) : Int) := by rw [Int.fdiv_eq_ediv_of_nonneg _ (by lia)]; rfl
theorem fmod_nat (a b : Nat) : (a : Int).fmod (b : Int) = ((a % b : Nat) : Int) := by rw [Int.fmod_eq_emod_of_nonneg _ (by lia)]; rfl

section
variable {C : Cfg} {gl : List (Str × V)} {A : Around} {env : Env} {c P : Addr} {qual name : Str} {params : Arguments} {scope : Scope} {clos : List (Str × Addr)} {pos : Pos} {H H' : AH} {Q : V → AH → Prop} {QF : Fl → AH → Prop}
theorem wp1_DefF {b : List Stmt} (F : FnA) {q : Str} {cl : List (Str × Addr)} (G : C.Ok gl) (hcode : env.code = .ref c) (hC : CodeHd C.B c P) (hglob : env.globals = mainGlobals) (hP : (P, AO.tab q) ∈ H) (hcl : closureFor scope env = pure cl)
    (h : ∀ f, Op1 C A URel (storeName env name) (.ref f) (fun _ H₂ => QF .next H₂) ((f, .fn F) :: H)) (hq : qualnameIn env name name = q) (hFe : (⟨q, params, .stmts b, scope, cl⟩ : FnA) = F := by rfl)
    (hd : defaultsOf params env = ([], []) := by with_unfolding_all rfl) (ha : annTrees params none env = [] := by with_unfolding_all rfl) : WP1 C A env (.FunctionDef name params b [] none [] scope none name pos) QF H :=
  wp1_Def G hcode hC hglob hP hcl (fun f => hFe.symm ▸ h f) hq hd ha
theorem wp_LambdaF {e : Expr} (F : FnA) {q : Str} {cl : List (Str × Addr)} (G : C.Ok gl) (hcode : env.code = .ref c) (hC : CodeHd C.B c P) (hglob : env.globals = mainGlobals) (hP : (P, AO.tab q) ∈ H) (hcl : closureFor scope env = pure cl)
    (k : ∀ f, Q (.ref f) ((f, .fn F) :: H)) (hq : env.qual ++ "<lambda>" = q) (hFe : (⟨q, params, .expr e, scope, cl⟩ : FnA) = F := by rfl)
    (hd : defaultsOf params env = ([], []) := by with_unfolding_all rfl) : WP C A (VRel C.X) (eval (.Lambda params e scope pos) env) Q H :=
  wp_Lambda G hcode hC hglob hP hcl (fun f => hFe.symm ▸ k f) hq hd
theorem ndig_mul_le {x n : Nat} : n * ndig x n ≤ Builtin.Int.intBits (x : Int) + n - 1 := Nat.mul_div_le _ _
theorem qual_in {L fa : Addr} {F : FnA} {cd : Value} {cs : List (Str × Addr)} {k : NameKind} (hk : F.scope.names.lookup name = some k) (hne : k ≠ .globalExplicit) (hq : F.qual ++ ".<locals>." ++ name = qual) : qualnameIn (envF F L fa cd cs) name name = qual := by
  unfold qualnameIn
  have h1 : (envF F L fa cd cs).kindOf name = some k := hk
  rw [h1, if_neg (by simpa using hne)]
  exact hq

theorem wps_ret {A : Around} {rest : List Stmt} {v : V} (h : QF (.ret v) H) : Behind C A env rest QF (.ret v) H := h
theorem wps_cont {A : Around} {rest : List Stmt} (h : QF .cont H) : Behind C A env rest QF .cont H := h
theorem turn_next {P : AH → Prop} (h : P H) : TurnEnd P QF .next H := h
theorem turn_cont {P : AH → Prop} (h : P H) : TurnEnd P QF .cont H := h
theorem turn_ret {P : AH → Prop} {v : V} (h : QF (.ret v) H) : TurnEnd P QF (.ret v) H := h
theorem splice_all {α : Type} {k : Nat} {z : α} {D : List α} (h : D.length = k) : splice (List.replicate k z) 0 D = D := by
  unfold splice
  rw [Nat.zero_add, h, List.drop_of_length_le (by simp)]
  simp
end

noncomputable def d2i (n : Nat) : List Int → Int
  | [] => 0
  | d :: ds => d + 2 ^ n * d2i n ds
theorem d2i_append (n : Nat) : ∀ xs ys : List Int, d2i n (xs ++ ys) = d2i n xs + 2 ^ (n * xs.length) * d2i n ys
  | [], ys => by simp [d2i]
  | x :: xs, ys => by
    rw [List.cons_append, d2i, d2i_append n xs ys, d2i, List.length_cons, Nat.mul_add, Nat.mul_one, Int.pow_add, Int.mul_add, ← Int.mul_assoc, Int.mul_comm (2 ^ n) (2 ^ (n * xs.length))]
    lia
theorem d2i_bound (n B : Nat) : ∀ ds : List Int, (∀ d ∈ ds, d.natAbs < 2 ^ B) → (d2i n ds).natAbs < 2 ^ (B + (n + 1) * ds.length)
  | [], _ => by simp [d2i]; exact Nat.two_pow_pos _
  | d :: ds, h => by
    have h1 := h d (.head _)
    have h2 := d2i_bound n B ds fun e he => h e (.tail _ he)
    rw [d2i, List.length_cons, Nat.mul_add, Nat.mul_one]
    have h3 : (2 ^ n * d2i n ds : Int).natAbs = 2 ^ n * (d2i n ds).natAbs := by rw [Int.natAbs_mul, Int.natAbs_pow]; rfl
    have h4 := Int.natAbs_add_le d (2 ^ n * d2i n ds)
    rw [h3] at h4
    have h5 : 2 ^ n * (d2i n ds).natAbs + 2 ^ n ≤ 2 ^ n * 2 ^ (B + (n + 1) * ds.length) := by
      have := Nat.mul_le_mul_left (2 ^ n) (show (d2i n ds).natAbs + 1 ≤ 2 ^ (B + (n + 1) * ds.length) from h2)
      rw [Nat.mul_add, Nat.mul_one] at this; exact this
    have h6 : 2 ^ (B + ((n + 1) * ds.length + (n + 1))) = 2 * (2 ^ n * 2 ^ (B + (n + 1) * ds.length)) := by
      rw [← Nat.pow_add, ← Nat.pow_succ']; congr 1; lia
    have h7 : 2 ^ B ≤ 2 ^ n * 2 ^ (B + (n + 1) * ds.length) := by
      rw [← Nat.pow_add]; exact Nat.pow_le_pow_right (by decide) (by lia)
    rw [h6, Nat.two_mul]
    exact Nat.lt_of_le_of_lt h4 (Nat.add_lt_add_of_lt_of_le (Nat.lt_of_lt_of_le h1 h7) (Nat.le_trans (Nat.le_add_right _ _) h5))
inductive VOk (pn : List Str) (xs : List (Option V)) : List Str → List (Option V) → Prop
  | rest {ln vs} (h : vs.all Option.isNone = true) : VOk pn xs ln vs
  | some {y ln u vs} (h : At pn xs y u) (r : VOk pn xs ln vs) : VOk pn xs (y :: ln) (Option.some u :: vs)
theorem VOk.get {pn : List Str} {xs : List (Option V)} {ln : List Str} {vs : List (Option V)} (h : VOk pn xs ln vs) : ∀ (k : Nat) x u, ln[k]? = Option.some x → vs[k]? = Option.some (Option.some u) → At pn xs x u := by
  induction h with
  | rest h =>
    intro k x u _ h2
    have := List.all_eq_true.mp h _ (List.mem_of_getElem? h2)
    simp at this
  | some ha _ ih =>
    intro k x u h1 h2
    cases k with
    | zero => simp at h1 h2; subst h1 h2; exact ha
    | succ k => exact ih k x u (by simpa using h1) (by simpa using h2)
theorem cells1 {cs : List (Str × Addr)} {x : Str} (h : cs.map (·.1) = [x]) : ∃ c, cs = [(x, c)] := by
  match cs, h with
  | [(_, c)], h => simp only [List.map_cons, List.map_nil, List.cons.injEq, and_true] at h; exact ⟨c, by rw [h]⟩
theorem cells_cons {cs : List (Str × Addr)} {x : Str} {r : List Str} (h : cs.map (·.1) = x :: r) : ∃ c cs', cs = (x, c) :: cs' ∧ cs'.map (·.1) = r := by
  match cs, h with
  | (_, c) :: cs', h => simp only [List.map_cons, List.cons.injEq] at h; exact ⟨c, cs', by rw [h.1], h.2⟩
theorem cells2 {cs : List (Str × Addr)} {x y : Str} (h : cs.map (·.1) = [x, y]) : ∃ c d, cs = [(x, c), (y, d)] := by
  obtain ⟨c, cs', rfl, h'⟩ := cells_cons h
  obtain ⟨d, rfl⟩ := cells1 h'
  exact ⟨c, d, rfl⟩
theorem cells3 {cs : List (Str × Addr)} {x y z : Str} (h : cs.map (·.1) = [x, y, z]) : ∃ c d e, cs = [(x, c), (y, d), (z, e)] := by
  obtain ⟨c, cs', rfl, h'⟩ := cells_cons h
  obtain ⟨d, e, rfl⟩ := cells2 h'
  exact ⟨c, d, e, rfl⟩
end
noncomputable section
inductive Hole (a : Addr) (x : AO) : AH → (AO → AH) → Prop
  | head {r} : Hole a x ((a, x) :: r) (fun y => (a, y) :: r)
  | tail {p r k} : Hole a x r k → Hole a x (p :: r) (fun y => p :: k y)
inductive Hole2 (a : Addr) (x : AO) (b : Addr) (y : AO) : AH → (AO → AO → AH) → Prop
  | fst {r k} : Hole b y r k → Hole2 a x b y ((a, x) :: r) (fun u v => (a, u) :: k v)
  | snd {r k} : Hole a x r k → Hole2 a x b y ((b, y) :: r) (fun u v => (b, v) :: k u)
  | tail {p r k} : Hole2 a x b y r k → Hole2 a x b y (p :: r) (fun u v => p :: k u v)
theorem Hole.eq {a x H K} (h : Hole a x H K) : H = K x := by
  induction h with
  | head => rfl
  | tail _ ih => rw [ih]
theorem Hole.upd {a x H K} (h : Hole a x H K) (u v : AO) : Upd a u v (K u) (K v) := by
  induction h with
  | head => exact .head
  | tail _ ih => exact .tail ih
theorem Hole.mem {a x H K} (h : Hole a x H K) (u : AO) : (a, u) ∈ K u := by
  induction h with
  | head => exact .head _
  | tail _ ih => exact .tail _ ih
theorem Hole.stay {a x H K} (h : Hole a x H K) (u : AO) {p : Addr × AO} (hp : p ∈ H) (hne : p ≠ (a, x)) : p ∈ K u := by
  induction h with
  | head => rcases List.mem_cons.mp hp with e | hp; exact absurd e hne; exact .tail _ hp
  | tail _ ih => rcases List.mem_cons.mp hp with rfl | hp; exact .head _; exact .tail _ (ih hp)
theorem Hole2.eq {a x b y H K} (h : Hole2 a x b y H K) : H = K x y := by
  induction h with
  | fst h => rw [h.eq]
  | snd h => rw [h.eq]
  | tail _ ih => rw [ih]
theorem Hole2.upd1 {a x b y H K} (h : Hole2 a x b y H K) (u u' v : AO) : Upd a u u' (K u v) (K u' v) := by
  induction h with
  | fst h => exact .head
  | snd h => exact .tail (h.upd u u')
  | tail _ ih => exact .tail ih
theorem Hole2.upd2 {a x b y H K} (h : Hole2 a x b y H K) (u v v' : AO) : Upd b v v' (K u v) (K u v') := by
  induction h with
  | fst h => exact .tail (h.upd v v')
  | snd h => exact .head
  | tail _ ih => exact .tail ih
theorem Hole2.stay {a x b y H K} (h : Hole2 a x b y H K) (u v : AO) {p : Addr × AO} (hp : p ∈ H) (h1 : p ≠ (a, x)) (h2 : p ≠ (b, y)) : p ∈ K u v := by
  induction h with
  | fst h => rcases List.mem_cons.mp hp with e | hp; exact absurd e h1; exact .tail _ (h.stay v hp h2)
  | snd h => rcases List.mem_cons.mp hp with e | hp; exact absurd e h2; exact .tail _ (h.stay u hp h1)
  | tail _ ih => rcases List.mem_cons.mp hp with rfl | hp; exact .head _; exact .tail _ (ih hp)
theorem Hole2.mem1 {a x b y H K} (h : Hole2 a x b y H K) (u v : AO) : (a, u) ∈ K u v := (h.upd1 u u v).mem
theorem Hole2.mem2 {a x b y H K} (h : Hole2 a x b y H K) (u v : AO) : (b, v) ∈ K u v := (h.upd2 u v v).mem
theorem Hole.re {a x H K} (h : Hole a x H K) (u : AO) : Hole a u (K u) K := by
  induction h with
  | head => exact .head
  | tail _ ih => exact .tail ih
theorem Hole2.re {a x b y H K} (h : Hole2 a x b y H K) (u v : AO) : Hole2 a u b v (K u v) K := by
  induction h with
  | fst h => exact .fst (h.re v)
  | snd h => exact .snd (h.re u)
  | tail _ ih => exact .tail ih
end
noncomputable section
-- the reader's own meaning, over signs
noncomputable def isW (c : Nat) : Bool := c == 10 || c == 9 || c == 13 || c == 32
noncomputable def lnN (n : Int) (c : Nat) : Int := if c = 10 then n + 1 else n
noncomputable def qGo : List Nat → List Nat → Int → List Nat × List Nat × Int
  | tok, [], n => (tok, [], n)
  | tok, c :: cs, n => if c = 34 then (tok, cs, n) else if c = 92 then (match cs with | [] => (tok, [], n) | d :: ds => qGo (tok ++ [d]) ds (lnN n d)) else qGo (tok ++ [c]) cs (lnN n c)
noncomputable def bGo : List Nat → List Nat → Int → List Nat × List Nat × Int
  | tok, [], n => (tok, [], n)
  | tok, c :: cs, n => if isW c then (tok, cs, lnN n c) else if c = 92 then (match cs with | [] => (tok, [], n) | d :: ds => bGo (tok ++ [d]) ds (lnN n d)) else bGo (tok ++ [c]) cs (lnN n c)
noncomputable def tGo : List Nat → Int → List Nat × List Nat × Int
  | [], n => ([], [], n)
  | c :: cs, n => if isW c then tGo cs (lnN n c) else if c = 34 then qGo [] cs n else if c = 92 then (match cs with | [] => ([], [], n) | d :: ds => bGo [d] ds (lnN n d)) else bGo [c] cs (lnN n c)
noncomputable abbrev mkS (l : List Nat) : Str := ⟨l.toArray⟩
theorem mkS_app (l m : List Nat) : mkS l ++ mkS m = mkS (l ++ m) := by
  show Str.mk _ = Str.mk _
  simp
theorem mkS_nil : ("" : Str) = mkS [] := by decide +kernel
theorem ws_in (c : Nat) : (!(Builtin.Str.occurrences ("\n\t\r " : Str) ⟨#[c]⟩ 0 ("\n\t\r " : Str).length 1).isEmpty) = isW c := by
  rw [StrLaws.found_one]
  have : ("\n\t\r " : Str).cps.toList = [10, 9, 13, 32] := by decide +kernel
  rw [this]
  unfold isW
  by_cases h1 : c = 10 <;> by_cases h2 : c = 9 <;> by_cases h3 : c = 13 <;> by_cases h4 : c = 32 <;> simp [h1, h2, h3, h4]
theorem tGo_ws {c : Nat} {cs : List Nat} {n : Int} (h : isW c = true) : tGo (c :: cs) n = tGo cs (lnN n c) := by rw [tGo.eq_def]; simp [h]
theorem tGo_q {cs : List Nat} {n : Int} : tGo (34 :: cs) n = qGo [] cs n := by rw [tGo.eq_def]; simp [isW]
theorem tGo_e0 {n : Int} : tGo [92] n = ([], [], n) := by rw [tGo.eq_def]; simp [isW]
theorem tGo_e {d : Nat} {ds : List Nat} {n : Int} : tGo (92 :: d :: ds) n = bGo [d] ds (lnN n d) := by rw [tGo.eq_def]; simp [isW]
theorem tGo_b {c : Nat} {cs : List Nat} {n : Int} (h : isW c = false) (h1 : c ≠ 34) (h2 : c ≠ 92) : tGo (c :: cs) n = bGo [c] cs (lnN n c) := by rw [tGo.eq_def]; simp [h, h1, h2]
theorem qGo_q {tok cs : List Nat} {n : Int} : qGo tok (34 :: cs) n = (tok, cs, n) := by rw [qGo.eq_def]; simp
theorem qGo_e0 {tok : List Nat} {n : Int} : qGo tok [92] n = (tok, [], n) := by rw [qGo.eq_def]; simp
theorem qGo_e {tok : List Nat} {d : Nat} {ds : List Nat} {n : Int} : qGo tok (92 :: d :: ds) n = qGo (tok ++ [d]) ds (lnN n d) := by rw [qGo.eq_def]; simp
theorem qGo_b {tok : List Nat} {c : Nat} {cs : List Nat} {n : Int} (h1 : c ≠ 34) (h2 : c ≠ 92) : qGo tok (c :: cs) n = qGo (tok ++ [c]) cs (lnN n c) := by rw [qGo.eq_def]; simp [h1, h2]
theorem bGo_w {tok : List Nat} {c : Nat} {cs : List Nat} {n : Int} (h : isW c = true) : bGo tok (c :: cs) n = (tok, cs, lnN n c) := by rw [bGo.eq_def]; simp [h]
theorem bGo_e0 {tok : List Nat} {n : Int} : bGo tok [92] n = (tok, [], n) := by rw [bGo.eq_def]; simp [isW]
theorem bGo_e {tok : List Nat} {d : Nat} {ds : List Nat} {n : Int} : bGo tok (92 :: d :: ds) n = bGo (tok ++ [d]) ds (lnN n d) := by rw [bGo.eq_def]; simp [isW]
theorem bGo_b {tok : List Nat} {c : Nat} {cs : List Nat} {n : Int} (h : isW c = false) (h2 : c ≠ 92) : bGo tok (c :: cs) n = bGo (tok ++ [c]) cs (lnN n c) := by rw [bGo.eq_def]; simp [h, h2]
theorem sg_is (c d : Nat) {x : Str} (h : x = ⟨#[d]⟩) : ((⟨#[c]⟩ : Str) == x) = decide (c = d) := by
  subst h
  by_cases e : c = d
  · subst e; simp
  · rw [decide_eq_false e]
    refine beq_eq_false_iff_ne.mpr fun h => e ?_
    have := congrArg (fun s : Str => s.cps.toList) h
    simpa using this
theorem q_sign : ("\"" : Str) = ⟨#[34]⟩ := by decide +kernel
theorem b_sign : ("\\" : Str) = ⟨#[92]⟩ := by decide +kernel
end
noncomputable section
theorem txt_join (sep : Str) (l : List Str) : Txt.join sep l = Str.join sep l := eq_of_beq (join_plain_closes sep l)
theorem join_mkS : ∀ ws : List (List Nat), Str.join (mkS []) (ws.map mkS) = mkS ws.flatten
  | [] => rfl
  | [w] => by simp [Str.join]
  | w :: x :: ws => by
    have ih := join_mkS (x :: ws)
    simp only [List.map_cons] at ih ⊢
    rw [Str.join, ih, mkS_app, mkS_app]
    · simp
    · simp
theorem tjoin_mkS (ws : List (List Nat)) : Txt.join "" (ws.map mkS) = mkS ws.flatten := by rw [txt_join, mkS_nil, join_mkS]
theorem mkS_len (l : List Nat) : (mkS l).length = l.length := by simp [Str.length]
theorem sum_len (ws : List (List Nat)) : ((ws.map mkS).map (·.length)).sum = ws.flatten.length := by
  induction ws with
  | nil => rfl
  | cons w ws ih => simp only [List.map_cons, List.sum_cons, ih, List.flatten_cons, List.length_append, mkS_len]
theorem flat_one (l : List Nat) : (l.map fun c => [c]).flatten = l := by
  induction l with
  | nil => rfl
  | cons c l ih => simp [ih]
theorem mkS_inj {l m : List Nat} (h : mkS l = mkS m) : l = m := by
  have := congrArg (fun s : Str => s.cps.toList) h
  simpa using this
theorem mkS_eq (l m : List Nat) : (mkS l == mkS m) = decide (l = m) := by
  by_cases h : l = m
  · subst h; simp
  · rw [decide_eq_false h]; exact beq_eq_false_iff_ne.mpr fun e => h (mkS_inj e)
end
noncomputable section
-- data for comparisons
noncomputable abbrev strVs (ws : List (List Nat)) : List V := ws.map fun l => V.str (mkS l)
noncomputable abbrev intVs (l : List Int) : List V := l.map V.int
noncomputable abbrev dS (l : List Nat) : PyData := .str (mkS l)
noncomputable abbrev dSs (ws : List (List Nat)) : PyData := .list (ws.map dS)
noncomputable abbrev dIs (l : List Int) : PyData := .list (l.map PyData.int)
section
variable {a : Addr} {H : AH}
theorem ds_nil : DsRel H [] [] := by simp only [DsRel]
theorem ds_cons {d : PyData} {v : V} {ds : List PyData} {vs : List V} (h : DRel H d v) (r : DsRel H ds vs) : DsRel H (d :: ds) (v :: vs) := by simp only [DsRel]; exact ⟨v, vs, rfl, h, r⟩
theorem dr_int {i : Int} : DRel H (.int i) (.int i) := by simp only [DRel]
theorem dr_str {l : List Nat} : DRel H (dS l) (.str (mkS l)) := by simp only [DRel]
theorem dr_list {ds : List PyData} {vs : List V} (h : (a, AO.list vs) ∈ H) (r : DsRel H ds vs) : DRel H (.list ds) (.ref a) := by simp only [DRel]; exact ⟨a, vs, rfl, h, r⟩
theorem ds_strs : ∀ ws : List (List Nat), DsRel H (ws.map dS) (strVs ws)
  | [] => ds_nil
  | w :: ws => ds_cons dr_str (ds_strs ws)
theorem ds_ints : ∀ l : List Int, DsRel H (l.map PyData.int) (intVs l)
  | [] => ds_nil
  | w :: ws => ds_cons dr_int (ds_ints ws)
theorem dr_strs {ws : List (List Nat)} (h : (a, AO.list (strVs ws)) ∈ H) : DRel H (dSs ws) (.ref a) := dr_list h (ds_strs ws)
theorem dr_ints {l : List Int} (h : (a, AO.list (intVs l)) ∈ H) : DRel H (dIs l) (.ref a) := dr_list h (ds_ints l)
end
noncomputable def DOk (n : Nat) (d : PyData) : Prop := d.canLay0 = true ∧ d.depth ≤ n
theorem dok_int {i : Int} {n : Nat} : DOk n (.int i) := ⟨rfl, Nat.zero_le _⟩
theorem dok_str {l : List Nat} {n : Nat} (h : ∀ c ∈ l, c < 0x110000) : DOk n (dS l) := ⟨by
  show (mkS l).cps.all _ = true
  simpa using h, Nat.zero_le _⟩
theorem dok_all {n : Nat} : ∀ {ds : List PyData}, (∀ d ∈ ds, DOk n d) → PyData.canLayAll0 ds = true ∧ PyData.depthAll ds ≤ n
  | [], _ => ⟨rfl, Nat.zero_le _⟩
  | d :: ds, h => by
    obtain ⟨h1, h2⟩ := h d (.head _)
    obtain ⟨h3, h4⟩ := dok_all fun e he => h e (.tail _ he)
    refine ⟨by simp only [PyData.canLayAll0, h1, h3, Bool.and_self], by simp only [PyData.depthAll]; lia⟩
theorem dok_list {n : Nat} {ds : List PyData} (h : ∀ d ∈ ds, DOk n d) : DOk (n + 1) (.list ds) := by
  obtain ⟨h1, h2⟩ := dok_all h
  exact ⟨by simpa only [PyData.canLay0] using h1, by simp only [PyData.depth]; lia⟩
theorem dok_strs {n : Nat} {ws : List (List Nat)} (h : ∀ w ∈ ws, ∀ c ∈ w, c < 0x110000) : DOk (n + 1) (dSs ws) := dok_list fun d hd => by
  obtain ⟨w, hw, rfl⟩ := List.mem_map.mp hd
  exact dok_str (h w hw)
theorem dok_ints {n : Nat} {l : List Int} : DOk (n + 1) (dIs l) := dok_list fun d hd => by
  obtain ⟨w, hw, rfl⟩ := List.mem_map.mp hd
  exact dok_int
theorem DOk.shaped {n : Nat} {d : PyData} (h : DOk n d) (hn : n ≤ 64) : SeqAt.shaped d = true := by
  unfold SeqAt.shaped
  rw [h.1, decide_eq_true (Nat.le_trans h.2 hn)]; rfl
theorem eqv_str {l m : List Nat} : PyData.eqv (dS l) (dS m) = decide (l = m) := by
  simp only [PyData.eqv]; exact mkS_eq l m
theorem eqv_int {i j : Int} : PyData.eqv (.int i) (.int j) = decide (i = j) := by
  simp only [PyData.eqv]; rfl
theorem eqv_cons {x y : PyData} {xs ys : List PyData} : PyData.eqv (.list (x :: xs)) (.list (y :: ys)) = (PyData.eqv x y && PyData.eqv (.list xs) (.list ys)) := by simp only [PyData.eqv, PyData.eqvAll]
theorem eqv_nil : PyData.eqv (.list []) (.list []) = true := by simp only [PyData.eqv, PyData.eqvAll]
theorem eqv_cn {x : PyData} {xs : List PyData} : PyData.eqv (.list (x :: xs)) (.list []) = false := by simp only [PyData.eqv, PyData.eqvAll]
theorem eqv_nc {x : PyData} {xs : List PyData} : PyData.eqv (.list []) (.list (x :: xs)) = false := by simp only [PyData.eqv, PyData.eqvAll]
theorem eqv_strs : ∀ ws us : List (List Nat), PyData.eqv (dSs ws) (dSs us) = decide (ws = us)
  | [], [] => by rw [decide_eq_true rfl]; exact eqv_nil
  | [], u :: us => by rw [decide_eq_false (by simp)]; exact eqv_nc
  | w :: ws, [] => by rw [decide_eq_false (by simp)]; exact eqv_cn
  | w :: ws, u :: us => by
    show PyData.eqv (.list (dS w :: ws.map dS)) (.list (dS u :: us.map dS)) = _
    rw [eqv_cons, eqv_str, show PyData.eqv (.list (ws.map dS)) (.list (us.map dS)) = decide (ws = us) from eqv_strs ws us]
    by_cases h1 : w = u <;> by_cases h2 : ws = us <;> simp [h1, h2]
theorem eqv_ints : ∀ ws us : List Int, PyData.eqv (dIs ws) (dIs us) = decide (ws = us)
  | [], [] => by rw [decide_eq_true rfl]; exact eqv_nil
  | [], u :: us => by rw [decide_eq_false (by simp)]; exact eqv_nc
  | w :: ws, [] => by rw [decide_eq_false (by simp)]; exact eqv_cn
  | w :: ws, u :: us => by
    show PyData.eqv (.list (.int w :: ws.map PyData.int)) (.list (.int u :: us.map PyData.int)) = _
    rw [eqv_cons, eqv_int, show PyData.eqv (.list (ws.map PyData.int)) (.list (us.map PyData.int)) = decide (ws = us) from eqv_ints ws us]
    by_cases h1 : w = u <;> by_cases h2 : ws = us <;> simp [h1, h2]
theorem Room.line {A : Around} {n : Nat} (r : Room A n) : A.units + 64 < cLine := by have := r.units; unfold cLine; lia
theorem rl_up {n : Int} : rangeLen 0 n 1 = n.toNat := by
  unfold rangeLen Builtin.Range.rangeSize
  by_cases h : (0 : Int) < n
  · simp only [h, if_true, show (1 : Int) > 0 by decide]; rw [Int.ediv_one]; congr 1; lia
  · simp only [h, if_false, show (1 : Int) > 0 by decide, if_true]; lia
theorem range_some {n : Int} {i : Nat} {H : AH} (h : (i : Int) < n) : rangeItem 0 n 1 i H (some (.int i)) := by
  show _ = _
  rw [rl_up, if_pos (by lia)]; show some (V.int _) = some (V.int _); congr 2; lia
theorem range_none {n : Int} {i : Nat} {H : AH} (h : n ≤ (i : Int)) : rangeItem 0 n 1 i H none := by
  show _ = _
  rw [rl_up, if_neg (by lia)]
end
noncomputable section
-- slices
theorem pick_run {α : Type} (l : List α) (a k : Nat) : ((List.range k).map (a + ·)).filterMap (l[·]?) = (l.drop a).take k := by
  have h := PySem.pick_run l.toArray a k
  simpa only [List.getElem?_toArray] using h
theorem pySlice_plain {α : Type} (l : List α) (lo hi : Option Int) : pySlice l lo hi none = (l.drop (lo.elim 0 (clipAt l.length))).take (hi.elim l.length (clipAt l.length) - lo.elim 0 (clipAt l.length)) := by
  unfold pySlice
  rw [sliceBounds_plain]
  dsimp only
  rw [sliceRange_one, pick_run]
theorem pySlice_upto {α : Type} (l : List α) (p : Nat) : pySlice l none (some p) none = l.take p := by
  rw [pySlice_plain]
  show l.take (clipAt l.length p) = _
  rw [clipAt_nat, ← List.take_eq_take_min]
theorem pySlice_drop {α : Type} (l : List α) (p : Nat) : pySlice l (some p) none none = l.drop p := by
  rw [pySlice_plain]
  show (l.drop (clipAt l.length p)).take (l.length - clipAt l.length p) = _
  rw [clipAt_nat]
  rcases Nat.le_total p l.length with h | h
  · rw [Nat.min_eq_left h]; exact List.take_of_length_le (by rw [List.length_drop]; exact Nat.le_refl _)
  · rw [Nat.min_eq_right h, List.drop_of_length_le h, List.drop_length, List.take_nil]
theorem pySlice_mid {α : Type} (l : List α) (p q : Nat) : pySlice l (some p) (some q) none = (l.take q).drop p := by
  rw [pySlice_plain]
  show (l.drop (clipAt l.length p)).take (clipAt l.length q - clipAt l.length p) = _
  rw [clipAt_nat, clipAt_nat, ← List.drop_take, ← List.take_eq_take_min]
  by_cases hp : p ≤ l.length
  · rw [Nat.min_eq_left hp]
  · have hp := Nat.le_of_not_le hp
    rw [Nat.min_eq_right hp, List.drop_of_length_le (List.length_take_le' _ _), List.drop_of_length_le (Nat.le_trans (List.length_take_le' _ _) hp)]
theorem pySlice_rev {α : Type} (l : List α) : pySlice l none none (some (-1)) = l.reverse := by
  show (sliceRange ((l.length : Int) - 1) (-1) (-1)).filterMap (l[·]?) = _
  have e := List.reverse_range' (s := 0) (n := l.length)
  rw [Nat.zero_add, ← List.range_eq_range'] at e
  rw [krv_sliceRange, ← e, List.filterMap_reverse]
  have h := pick_run l 0 l.length
  rw [List.drop_zero, List.take_length] at h
  simpa using h
theorem pySlice_init {α : Type} (l : List α) : pySlice l none (some (-1)) none = l.dropLast := by
  rw [pySlice_plain]
  show l.take (clipAt l.length (-((1 : Nat) : Int))) = _
  rw [clipAt_neg _ _ (by decide), List.dropLast_eq_take]
theorem pySlice_init2 {α : Type} (l : List α) (x y : α) : pySlice (l ++ [x, y]) none (some (-2)) none = l := by
  rw [pySlice_plain]
  show (l ++ [x, y]).take (clipAt (l ++ [x, y]).length (-((2 : Nat) : Int))) = _
  rw [clipAt_neg _ _ (by decide), List.length_append]
  exact List.take_left' (by simp)

section
variable {C : Cfg} {gl : List (Str × V)} {A : Around} {env : Env} {pos tpos : Pos} {L : Addr} {ln gn : List Str} {cn : List (Str × Addr)} {H H' : AH} {Q : V → AH → Prop} {QF : Fl → AH → Prop} {QU : Unit → AH → Prop}
theorem VsRel.rev {X : List Addr} {h : Heap} : ∀ {us : List V} {vs : List Value}, VsRel X h us vs → VsRel X h us.reverse vs.reverse
  | [], vs, r => by simp only [VsRel] at r; subst r; exact VsRel.nil
  | u :: us, vs, r => by
    simp only [VsRel] at r
    refine E23 r fun v l e q q' => ?_
    subst e
    rw [List.reverse_cons, List.reverse_cons]
    exact (VsRel.rev q').append (.cons q .nil)
theorem wp1_Assign_swapE {elts : List Expr} {k : Nat} {value : Expr} {names : List Str} (hA : A.handled = none)
    (hw : swappedStores [.Tuple elts k tpos] value env = pure (some names))
    (h : WP C A (VRel C.X) (eval value env) (fun x H₁ => ∃ vs, x = .tup vs ∧ names.length = vs.length ∧ WPAs C A (names.reverse.map fun n => bindName env n) vs.reverse (fun _ H₂ => QF .next H₂) H₁) H)
    (hs : swapsWithSole [.Tuple elts k tpos] value pos.line env = pure false := by with_unfolding_all rfl) :
    WP1 C A env (.Assign [.Tuple elts k tpos] value pos) QF H := fun s R => by
  refine Assign_Tuple_swapped (names := names) (wpAny_mono (h s R) (fun v s₁ p => Post.el p fun x H₁ q rv R₁ k => E13 q fun vs hx hn q' => ?_) fun _ _ x => x) hs hw
  subst hx
  simp only [VRel] at rv
  refine E24 rv fun a items ev hX ht rvs => ?_
  subst ev
  have hl := rvs.length
  have hsz : names.length = items.size := by rw [hn, ← hl, Array.length_toList]
  rw [hsz]
  refine wpAny_unpackItems_tuple hA ht fun h' he => ?_
  have ext : ∀ b o, s₁.heap.get? b = some o → h'.get? b = some o := fun b o e => he b o (Nat.ne_of_lt (Heap.lt_size e)) e
  refine wpAny_mono (q' _ { s₁ with heap := h' } (rvs.fz (fz_of_ext ext)).rev (R₁.ext (t := s₁.toks) ext)) (fun _ _ p148 => Post.el p148 fun _ H₂ q₂ _ R₂ k₂ => ⟨.next, H₂, q₂, rfl, R₂, (k.trans (kept_of_ext (t := s₁.toks) ext)).trans k₂⟩) fun _ _ x => x
theorem wp1_swap2 {a b : Str} {pa pb p p' spos : Pos} {k k' : Nat} {x y : Expr} (FE : FEnv env L ln cn gn) (hA : A.handled = none) (ha : a ∈ ln) (hb : b ∈ ln)
    (h : WP C A (VRel C.X) (eval x env) (fun u H₁ => WP C A (VRel C.X) (eval y env) (fun v H₂ => Op1 C A URel (storeName env b) v (fun _ H₃ => Op1 C A URel (storeName env a) u (fun _ H₄ => QF .next H₄) H₃) H₂) H₁) H)
    (hab : (a == b) = false := by decide +kernel) (h1 : (pb.line == pa.line) = true := by decide +kernel) (hx : notStar x = true := by rfl) (hy : notStar y = true := by rfl)
    (hf : ([x, y].all (foldedForSure 8)) = false := by decide +kernel) (hc : ([x, y].all (constantsAlone 8)) = false := by decide +kernel)
    (he : starEach [x, y] env = (false, eval x env) :: starEach [y] env := by with_unfolding_all rfl) (he2 : starEach [y] env = (false, eval y env) :: starEach [] env := by with_unfolding_all rfl)
    (hs : swapsWithSole [.Tuple [.Name a pa, .Name b pb] k p] (.Tuple [x, y] k' p') spos.line env = pure false := by with_unfolding_all rfl) :
    WP1 C A env (.Assign [.Tuple [.Name a pa, .Name b pb] k p] (.Tuple [x, y] k' p') spos) QF H := by
  refine wp1_Assign_swapE hA (swap2 FE ha hb hab h1 hx hy hf hc) (wp_Tuple (wpl_cons (fun s R => wpAny_mono (h s R) (fun _ _ p149 => Post.el p149 fun u H₁ q ru R₁ k₁ => ⟨u, H₁, wpl_cons (fun s R => wpAny_mono (q s R) (fun _ _ p150 => Post.el p150 fun v H₂ q₂ rv R₂ k₂ => ⟨v, H₂, wpl_nil (fewOf ⟨_, rfl, rfl, ?_⟩), rv, R₂, k₂⟩) fun _ _ e => e) he2, ru, R₁, k₁⟩) fun _ _ e => e) he)) hs
  exact wpas_cons (op_bind (fun w s rw R => wpAny_mono (q₂ w s rw R) (fun _ _ p151 => Post.el p151 fun t H₃ q₃ rt R₃ k₃ => ⟨t, H₃, wpas_cons (op_bind (fun w s rw R => wpAny_mono (q₃ w s rw R) (fun _ _ p152 => Post.el p152 fun t H₄ q₄ rt R₄ k₄ => ⟨t, H₄, wpas_nil q₄, rt, R₄, k₄⟩) fun _ _ e => e)), rt, R₃, k₃⟩) fun _ _ e => e))
theorem filt_lt {α β : Type} {f : α → Option β} {l : List α} {x : α} (hx : x ∈ l) (h : f x = none) : (l.filterMap f).length < l.length := by
  induction l with
  | nil => cases hx
  | cons y l ih =>
    rcases List.mem_cons.mp hx with rfl | hx
    · rw [List.filterMap_cons, h]; exact Nat.lt_succ_of_le (List.length_filterMap_le _ _)
    · have := ih hx
      rw [List.filterMap_cons]
      cases f y with
      | none => show (l.filterMap f).length < l.length + 1; omega
      | some z => show (l.filterMap f).length + 1 < l.length + 1; omega
theorem noswap {a : Str} {c : Addr} {pa p p' : Pos} {k k' : Nat} {ts vs : List Expr} (FE : FEnv env L ln cn gn) (hm : (a, c) ∈ cn) (ht : Expr.Name a pa ∈ ts) :
    swappedStores [.Tuple ts k p] (.Tuple vs k' p') env = pure none := by
  have e1 : (env.kindOf a == some .local) = false := by
    rcases (FE.hc _ hm).1 with h | h <;> rw [h] <;> rfl
  unfold swappedStores
  dsimp only
  split
  · rfl
  split
  · rfl
  generalize hL : List.filterMap _ ts = l
  have : l.length < ts.length := by rw [← hL]; exact filt_lt ht (by simp [e1])
  rw [if_pos (by simp; left; omega)]
theorem Op1.sub {α β : Type} {T : Heap → β → α → Prop} {f : Value → Sem α} {x : V} {Q : β → AH → Prop} (y : Sub H' H) (h : Op1 C A T f x Q H') : Op1 C A T f x Q H := fun v s rv R =>
  wpAny_mono (h v s rv (R.sub y)) (fun _ _ p153 => Post.el p153 fun u H₁ q r R' k => ⟨u, H₁, q, r, R', fun b o n e => k b o (fun h => n (y.kmem h)) e⟩) fun _ _ e => e
theorem Op2.sub {α β : Type} {T : Heap → β → α → Prop} {f : Value → Value → Sem α} {x z : V} {Q : β → AH → Prop} (y : Sub H' H) (h : Op2 C A T f x z Q H') : Op2 C A T f x z Q H := fun v w s rv rw R =>
  wpAny_mono (h v w s rv rw (R.sub y)) (fun _ _ p154 => Post.el p154 fun u H₁ q r R' k => ⟨u, H₁, q, r, R', fun b o n e => k b o (fun h => n (y.kmem h)) e⟩) fun _ _ e => e
theorem wp1_mid {st : Stmt} {rest : List Stmt} (I : AH → Prop) (h : WP1 C A env st (fun f H₁ => f = .next ∧ I H₁) H) (k : ∀ H₁, I H₁ → WPS C A env rest QF H₁) : WP1 C A env st (Behind C A env rest QF) H :=
  fun s R => wpAny_mono (h s R) (fun _ _ p155 => Post.el p155 fun x H₁ p156 rx R₁ kp => p156.elim fun hx q => ⟨x, H₁, by subst hx; exact k H₁ q, rx, R₁, kp⟩) fun _ _ e => e
end
end
noncomputable section
section
variable {C : Cfg} {A : Around} {α β : Type} {T : Heap → β → α → Prop} {t : Sem α} {Q : β → AH → Prop} {H : AH}
theorem WP.pin (v : β) (h : WP C A T t (fun x H₁ => x = v ∧ Sub H H₁) H) (k : Q v H) : WP C A T t Q H := fun s R =>
  wpAny_mono (h s R) (fun _ _ p157 => Post.el p157 fun x H₁ p158 r R₁ kp => p158.elim fun hx y => ⟨x, H, by subst hx; exact k, r, R₁.sub y, kp.sub y⟩) fun _ _ e => e
end
end
noncomputable section
section
variable {C : Cfg} {gl : List (Str × V)} {A : Around} {H H' : AH} {Q : V → AH → Prop}
theorem gs_base {l : Addr} {its : Array Value} {ns : List Int} {lo hi st : Option Int} (hl : C.B.IsList l its) (hi' : IntsAre its.toList ns) (h0 : st ≠ some 0) (hz : ns.length ≤ 100000) (q : ∀ a, Q (.ref a) ((a, .list (pySlice (intVs ns) lo hi st)) :: H)) : GS C A (.ref l) lo hi st Q H := fun o sl vl vu vst s ro hs p1 p2 p3 R => by
  simp only [VRel] at ro; subst ro
  have pl : s.heap.IsList l its := let ⟨o, e, r⟩ := hl; ⟨o, R.keep _ _ e, r⟩
  have rvs : VsRel C.X s.heap (intVs ns) its.toList := by
    have : ∀ (vs : List Value) (ns : List Int), IntsAre vs ns → VsRel C.X s.heap (intVs ns) vs := by
      intro vs ns h
      induction h with
      | nil => exact VsRel.nil
      | cons _ _ _ ih => exact VsRel.cons ⟨_, rfl⟩ ih
    exact this _ _ hi'
  have hlen := rvs.length
  refine ⟨_, _, slot_list_getitem.lookup, pl.typeIs, wpAny_getItem_list_slice pl hs p1 p2 p3 h0 ?_ (by rw [← Array.length_toList, hlen, List.length_map, sizeLine_eq]; lia)⟩
  have ext : ∀ b o, s.heap.get? b = some o → (s.heap.push { cls := .type "list", data := .seq (slicePick its lo hi st) }).get? b = some o := fun b o e => Heap.get?_push_of_some _ e
  refine ⟨_, _, q _, rfl, R.add (t := s.toks) ext (Nat.le_refl _) ⟨_, ⟨0, Heap.get?_push_size _ rfl⟩, ?_⟩, kept_add (t := s.toks) ext (Nat.le_refl _)⟩
  have := (filterMap_rel (rvs.fz (fz_of_ext ext)) (sliceRange (sliceBounds lo hi st (intVs ns).length).1 (sliceBounds lo hi st (intVs ns).length).2.1 (sliceBounds lo hi st (intVs ns).length).2.2))
  have e : (slicePick its lo hi st).toList = (sliceRange (sliceBounds lo hi st (intVs ns).length).1 (sliceBounds lo hi st (intVs ns).length).2.1 (sliceBounds lo hi st (intVs ns).length).2.2).filterMap (its.toList[·]?) := by
    unfold slicePick
    rw [← hlen]; simp
  rw [e]
  exact this
end
-- counting a sign
open Builtin Builtin.Str StrLaws in
theorem occ_count (x : Str) (c : Nat) (limit : Nat) (hlim : x.length < limit) : ∀ (k i : Nat) (found : Array Nat), i + k = x.length + 1 → ∀ free, free ≤ i → found.size ≤ i →
    (forIn (List.range' i k) (found, free) (occBody x ⟨#[c]⟩ x.length limit)).run.fst.size = found.size + (x.cps.toList.drop i).count c
  | 0, i, found, hk, free, hf, hs => by
    have : x.cps.toList.drop i = [] := List.drop_of_length_le (by show x.cps.toList.length ≤ i; rw [Array.length_toList]; show x.length ≤ i; lia)
    rw [this]; rfl
  | k + 1, i, found, hk, free, hf, hs => by
    rw [List.range'_succ, List.forIn_cons]
    have hone := subAt_one x c i
    by_cases h : x.cps.toList[i]? = some c
    · have h2 := hone.mpr h
      have hi : i < x.cps.toList.length := (List.getElem?_eq_some_iff.mp h).1
      have hb : occBody x ⟨#[c]⟩ x.length limit i (found, free) = pure (ForInStep.yield (found.push i, i + 1)) := by
        unfold occBody
        have hil : i < x.length := by rw [Array.length_toList] at hi; exact hi
        rw [if_pos ⟨⟨⟨by show found.size < limit; lia, hf⟩, h2.1⟩, h2.2⟩]
        rfl
      rw [hb]
      show (forIn (List.range' (i + 1) k) (found.push i, i + 1) (occBody x ⟨#[c]⟩ x.length limit)).run.fst.size = _
      rw [occ_count x c limit hlim k (i + 1) (found.push i) (by lia) (i + 1) (Nat.le_refl _) (by simp; lia), List.drop_eq_getElem_cons hi, Array.size_push]
      have e : x.cps.toList[i] = c := by rw [List.getElem?_eq_getElem hi] at h; exact Option.some.inj h
      rw [e, List.count_cons_self]; lia
    · have hb : occBody x ⟨#[c]⟩ x.length limit i (found, free) = pure (ForInStep.yield (found, free)) := by
        unfold occBody
        rw [if_neg (fun hc => h (hone.mp ⟨hc.1.2, hc.2⟩))]
      rw [hb]
      show (forIn (List.range' (i + 1) k) (found, free) (occBody x ⟨#[c]⟩ x.length limit)).run.fst.size = _
      rw [occ_count x c limit hlim k (i + 1) found (by lia) free (by lia) (by lia)]
      by_cases hi : i < x.cps.toList.length
      · rw [List.drop_eq_getElem_cons hi, List.count_cons_of_ne]
        rw [List.getElem?_eq_getElem hi] at h
        exact fun e => h (by rw [e])
      · rw [List.drop_of_length_le (by lia), List.drop_of_length_le (by lia)]
theorem count_sign (l : List Nat) (c : Nat) : (Builtin.Str.occurrences (mkS l) ⟨#[c]⟩ 0 (mkS l).length ((mkS l).length + 1)).length = l.count c := by
  rw [StrLaws.occ_eq, Array.length_toList, Nat.sub_zero, occ_count (mkS l) c _ (Nat.lt_succ_self _) _ 0 #[] (by lia) 0 (Nat.le_refl _) (Nat.zero_le _)]
  simp
end
noncomputable section
theorem str_slice (l : List Nat) (lo hi st : Option Int) : (Builtin.Str.strSliceIndices lo hi (st.getD 1) (mkS l).length).filterMap ((mkS l).cps[·]?) = pySlice l lo hi st := by
  unfold pySlice Builtin.Str.strSliceIndices
  rw [mkS_len]
  simp only [List.getElem?_toArray]
  rfl
section
variable {C : Cfg} {gl : List (Str × V)} {A : Around} {H H' : AH} {Q : V → AH → Prop}
theorem idx_drop (p n : Nat) (h : p ≤ n) : Builtin.Str.strSliceIndices (some (p : Int)) none 1 n = (List.range (n - p)).map (p + ·) := by
  have e : Builtin.Str.strSliceIndices (some (p : Int)) none 1 n = sliceRange (sliceBounds (some (p : Int)) none none n).1 (sliceBounds (some (p : Int)) none none n).2.1 (sliceBounds (some (p : Int)) none none n).2.2 := rfl
  rw [e, sliceBounds_plain]
  show sliceRange (clipAt n p : Nat) n 1 = _
  rw [sliceRange_one, clipAt_nat, Nat.min_eq_left h]
theorem gs_str_drop {l : List Nat} {p : Nat} (hp : p ≤ l.length) (hz : l.length ≤ 100000) (q : Q (.str (mkS (l.drop p))) H) : GS C A (.str (mkS l)) (some (p : Int)) none none Q H := by
  have hi := idx_drop p (mkS l).length (by rw [mkS_len]; exact hp)
  refine gs_str (x := mkS l) (y := mkS (l.drop p)) (st := none) (by decide) (by rw [mkS_len]; exact hz) ?_ ?_ ?_ q
  · rw [str_slice, pySlice_drop l p]
  · show (Builtin.Str.strSliceIndices (some (p : Int)) none 1 (mkS l).length).length ≤ _
    rw [hi, mkS_len]; simp
  · intro hc
    have hc2 := (Bool.and_eq_true_iff.mp hc).2
    have : (Builtin.Str.strSliceIndices (some (p : Int)) none 1 (mkS l).length).length = (mkS l).length := eq_of_beq hc2
    rw [hi, mkS_len] at this
    rw [List.length_map, List.length_range] at this
    by_cases h0 : p = 0
    · subst h0; rfl
    · have : l.length = 0 := (Nat.eq_zero_or_pos _).resolve_right fun h1 => absurd this (Nat.ne_of_lt (Nat.sub_lt h1 (Nat.pos_of_ne_zero h0)))
      rw [List.length_eq_zero_iff.mp this, List.drop_nil]
end
end
noncomputable section
noncomputable def fnTup (K : Frag) (fa : Addr) : Option (Str × Arguments × FuncBody × Scope × List (Str × Addr) × Addr × Addr × Value × Value × Value) := match K.lookup fa with
  | some ⟨_, _, .func fd, _⟩ => some (fd.qualname, fd.params, fd.body, fd.scope, fd.closure, fd.globals, fd.builtins, fd.defaults, fd.kwdefaults, fd.code)
  | _ => none
noncomputable def codeQ (K : Frag) (c : Addr) : Option Str := match K.lookup c with
  | some ⟨_, _, .fields vs, _⟩ => (match (vs[1]? : Option Value) with | some (.str q _) => some q | _ => none)
  | _ => none
noncomputable def codeAt (K : Frag) (fa : Addr) : Addr := match K.lookup fa with
  | some ⟨_, _, .func fd, _⟩ => (match fd.code with | .ref c => c | _ => 0)
  | _ => 0
theorem fnAt_of_K {K : Frag} {h : Heap} {fa c : Addr} {F : FnA} (X : K.In h) (e : fnTup K fa = some (F.qual, F.params, F.body, F.scope, F.closure, mainGlobals, builtinsNs, .none, .none, .ref c)) (e2 : codeQ K c = some F.qual) : FnAt h fa F (.ref c) := by
  unfold fnTup at e
  split at e
  · rename_i cls di fd sl q
    simp only [Option.some.injEq, Prod.mk.injEq] at e
    obtain ⟨r1, r2, r3, r4, r5, r6, r7, r8, r9, r10⟩ := e
    unfold codeQ at e2
    split at e2
    · rename_i cls' di' vs sl' q'
      split at e2
      · rename_i qn t hv
        cases e2
        exact ⟨_, fd, X _ _ q, rfl, r1, r2, r3, r4, r5, r6, r7, r8, r9, r10, ⟨c, _, vs, t, rfl, X _ _ q', rfl, hv⟩⟩
      · cases e2
    · cases e2
  · cases e
section
variable {K : Frag} {B : Heap} {mg mb : Str → Option Value} {n : Str} {Xs : List Addr}
theorem gl_fn {a : Addr} (X : K.In B) (G : B.Ns mainGlobals mg) (e : nsIn K mainGlobals n = some (some (.ref a))) : ∃ v, VRel Xs B (.ref a) v ∧ (mg n = some v ∨ (mg n = none ∧ mb n = some v)) := ⟨.ref a, by simp only [VRel], .inl (mg_of X G e)⟩
noncomputable def intIn (K : Frag) (n : Str) : Option Int := match nsIn K mainGlobals n with | some (some (.int i _)) => some i | _ => none
theorem gl_int {i : Int} (X : K.In B) (G : B.Ns mainGlobals mg) (e : intIn K n = some i) : ∃ v, VRel Xs B (.int i) v ∧ (mg n = some v ∨ (mg n = none ∧ mb n = some v)) := by
  unfold intIn at e
  split at e
  · rename_i j t q
    cases e
    exact ⟨.int i t, by simp only [VRel]; exact ⟨t, rfl⟩, .inl (mg_of X G q)⟩
  · cases e
theorem gl_ty {s : String} (X : K.In B) (G : B.Ns mainGlobals mg) (hb : ∀ x : Str, x ≠ "__name__" → mb x = bootBuiltins x) (e : nsIn K mainGlobals n = some none) (hv : bootBuiltins n = some (.type s)) (hn : n ≠ "__name__") : ∃ v, VRel Xs B (.ty s) v ∧ (mg n = some v ∨ (mg n = none ∧ mb n = some v)) :=
  ⟨.type s, by simp only [VRel], .inr ⟨mg_none_of X G e, (hb n hn).trans hv⟩⟩
theorem gl_bi {s : String} (X : K.In B) (G : B.Ns mainGlobals mg) (hb : ∀ x : Str, x ≠ "__name__" → mb x = bootBuiltins x) (e : nsIn K mainGlobals n = some none) (hv : bootBuiltins n = some (.builtin s)) (hn : n ≠ "__name__") : ∃ v, VRel Xs B (.bi s) v ∧ (mg n = some v ∨ (mg n = none ∧ mb n = some v)) :=
  ⟨.builtin s, by simp only [VRel], .inr ⟨mg_none_of X G e, (hb n hn).trans hv⟩⟩
end
end
noncomputable section
noncomputable def fragAt (h : Heap) (as : List Addr) : Frag := as.filterMap fun a => (h.get? a).map fun o => (a, o)
theorem fragAt_in (h : Heap) (as : List Addr) : (fragAt h as).In h := fun a o e => by
  have hm := mem_of_lookupK e
  unfold fragAt at hm
  obtain ⟨b, _, hb⟩ := List.mem_filterMap.mp hm
  cases ho : h.get? b with
  | none => rw [ho] at hb; cases hb
  | some o' =>
    rw [ho] at hb
    cases hb
    exact ho
noncomputable def tHook (as ts : List Addr) {β : Type} (chk : Frag → β) (ok : β) : Hook where
  α := β × List (Option Obj)
  obs := fun s => (chk (fragAt s.heap as), ts.map s.heap.get?)
  val := fun _ => (ok, ts.map fun _ => some (tabObj #[]))
  says := fun _ h => (∃ K : Frag, K.In h ∧ chk K = ok) ∧ ∀ P ∈ ts, h.get? P = some (tabObj #[])
  of := fun w s x => ⟨⟨fragAt s.heap as, fragAt_in s.heap as, (Prod.mk.inj x).1⟩, List.map_inj_left.mp (Prod.mk.inj x).2⟩
  keeps := fun w h h' x k => ⟨let ⟨K, a, b⟩ := x.1; ⟨K, a.keeps k, b⟩, fun P hP => k _ _ (x.2 P hP)⟩
theorem nth_of {α : Type} {l m : List α} (e : l = m) (i : Nat) : l[i]? = m[i]? := by rw [e]
end
noncomputable section
section
variable {C C' : Cfg} {A : Around} {env : Env} {pos tpos : Pos} {target : Expr} {H H' : AH} {Q : V → AH → Prop} {QB : Bool → AH → Prop} {QI : Cfg → (Nat → AH → Option V → Prop) → AH → Prop}
-- sums
theorem preSum_take (xs : List Int) : ∀ n, preSum (fun i => xs.getD i 0) n = (xs.take n).sum
  | 0 => by simp [preSum]
  | n + 1 => by
    rw [preSum, preSum_take xs n]
    by_cases h : n < xs.length
    · rw [List.take_succ_eq_append_getElem h, List.sum_append]
      simp [List.getD_eq_getElem?_getD, h]
    · rw [List.take_of_length_le (by lia), List.take_of_length_le (by lia), List.getD_eq_getElem?_getD, List.getElem?_eq_none (by lia)]; simp
theorem sum_bound {B : Nat} : ∀ {xs : List Int}, (∀ x ∈ xs, x.natAbs ≤ B) → xs.sum.natAbs ≤ xs.length * B
  | [], _ => by simp
  | x :: xs, h => by
    have h1 := sum_bound fun y hy => h y (.tail _ hy)
    have h2 := h x (.head _)
    rw [List.sum_cons, List.length_cons, Nat.add_mul, Nat.one_mul, Nat.add_comm]
    exact absA h2 h1
theorem c_sum {l : Addr} {xs : List Int} (hA : A.handled = none) (hl : (l, AO.list (xs.map V.int)) ∈ H) (hb : ∀ x ∈ xs, x.natAbs ≤ 2 ^ 50) (hz : xs.length ≤ 1000) (q : Q (.int xs.sum) H) : WPC C A (.bi "sum") [.ref l] Q H := wpc_bi fun avs s ra R => by
  obtain ⟨v, rfl, r1⟩ := rel1 ra
  simp only [VRel] at r1; subst r1
  obtain ⟨items, pl, rvs⟩ := R.objs _ hl
  have hlt : l < s.heap.objs.size := by obtain ⟨n, e⟩ := pl; exact Heap.lt_size e
  have hlen : items.size = xs.length := by have := rvs.length; simpa using this
  have hget : ∀ (i : Nat) (v : Value), items[i]? = some v → ∃ t, v = .int (xs.getD i 0) t := fun i v hv => by
    have hi : i < xs.length := by rw [← hlen]; exact (Array.getElem?_eq_some_iff.mp hv).1
    obtain ⟨w, hw, rw⟩ := rvs.get (i := i) (u := .int xs[i]) (by simp [hi])
    simp only [Array.getElem?_toList] at hw
    rw [hv] at hw; cases hw
    simp only [VRel] at rw
    obtain ⟨t, rfl⟩ := rw
    exact ⟨t, by simp [List.getD_eq_getElem?_getD, hi]⟩
  refine call_sum_walk (wpAny_pyIter_list (PlainList.isList pl) ⟨_, _, _, _, _, _, fun i => xs.getD i 0, rfl, Walks.list (A := A.in1) hA s.heap.objs.size l (Nat.ne_of_lt hlt) items, ⟨⟨_, Heap.get?_push_size _ rfl, rfl, rfl⟩, (PlainList.isList pl).at fun o e => Heap.get?_push_of_some _ e⟩, fun b hb => ?_, hget, fun j hj => ?_, fun h' tk t' k => ?_⟩)
  · simp at hb
    show b < (s.heap.push _).objs.size
    rw [Heap.size_push]
    rcases hb with rfl | rfl <;> lia
  · have hj' : j < xs.length := hlen ▸ hj
    have b1 : (xs.getD j 0).natAbs ≤ 2 ^ 50 := by
      have : xs.getD j 0 = xs[j] := by simp [List.getD_eq_getElem?_getD, hj']
      rw [this]; exact hb _ (List.getElem_mem hj')
    have b2 := sum_bound (B := 2 ^ 50) fun x hx => hb x (List.mem_of_mem_take (i := j + 1) hx)
    have b3 : (xs.take (j + 1)).length * 2 ^ 50 ≤ 1000 * 2 ^ 50 := Nat.mul_le_mul_right _ (by rw [List.length_take]; exact Nat.le_trans (Nat.min_le_right _ _) hz)
    rw [preSum_take]
    unfold InLong
    exact ⟨abs63 (Nat.le_trans b1 (by decide)), abs63 (Nat.le_trans b2 b3)⟩
  · have e : preSum (fun i => xs.getD i 0) items.size = xs.sum := by rw [preSum_take, hlen, List.take_length]
    rw [e]
    refine post_ext (s := s) (x := V.int xs.sum) R (fun b o e => ?_) ⟨_, rfl⟩ q
    exact k b o (fun hm => by rw [List.mem_singleton.mp hm] at e; exact Nat.lt_irrefl _ (Heap.lt_size e)) (Heap.get?_push_of_some _ e)
-- the lesser of two
theorem c_min2 {a b : Int} (hA : A.handled = none) (q : Q (.int (min a b)) H) : WPC C A (.bi "min") [.int a, .int b] Q H := wpc_bi fun avs s ra R => by
  obtain ⟨v, w, rfl, r1, r2⟩ := rel2 ra
  simp only [VRel] at r1 r2; obtain ⟨t, rfl⟩ := r1; obtain ⟨u, rfl⟩ := r2
  have hT : (s.heap.push { cls := .type "tuple", data := .seq #[.int a t, .int b u] }).IsTuple s.heap.objs.size #[.int a t, .int b u] := ⟨_, Heap.get?_push_size _ rfl, rfl, 0, rfl⟩
  refine call_min_two (wpAny_pyIter_tuple hT ⟨_, _, _, _, _, _, fun i j => decide ((if i = 0 then a else b) < (if j = 0 then a else b)), rfl,
    Walks.tuple (A := A.in1) hA (s.heap.push { cls := .type "tuple", data := .seq #[.int a t, .int b u] }).objs.size s.heap.objs.size (by rw [Heap.size_push]; lia) #[.int a t, .int b u],
    ⟨⟨_, Heap.get?_push_size _ rfl, rfl, rfl⟩, ⟨_, Heap.get?_push_of_some _ (Heap.get?_push_size _ rfl), rfl, 0, rfl⟩⟩, fun x hx => ?_, Nat.zero_lt_succ _, CmpOf.ints_lt (fun i => if i = 0 then a else b) (fun i v hv => ?_), fun v h' tk hP k => ?_⟩)
  · simp at hx
    show x < ((s.heap.push _).push _).objs.size
    rw [Heap.size_push, Heap.size_push]
    rcases hx with rfl | rfl <;> lia
  · match i, hv with
    | 0, hv => simp at hv; exact ⟨t, hv.symm⟩
    | 1, hv => simp at hv; exact ⟨u, hv.symm⟩
    | i + 2, hv => simp at hv
  · have k' : ∀ x o, s.heap.get? x = some o → h'.get? x = some o := fun x o e => k x o (fun hm => by
      have := List.mem_singleton.mp hm
      rw [Heap.size_push] at this
      exact absurd (Heap.lt_size e) (by lia)) (Heap.get?_push_of_some _ (Heap.get?_push_of_some _ e))
    have hv : ∃ t', v = .int (min a b) t' := by
      have e1 : (#[Value.int a t, .int b u] : Array Value).size - 1 = 1 := rfl
      rw [e1] at hP
      simp only [argBest] at hP
      by_cases hba : b < a
      · rw [if_pos (by simpa using hba)] at hP
        simp at hP
        exact ⟨u, by rw [← hP, show min a b = b from Int.min_eq_right (Int.le_of_lt hba)]⟩
      · rw [if_neg (by simpa using hba)] at hP
        simp at hP
        exact ⟨t, by rw [← hP, show min a b = a from Int.min_eq_left (Int.not_lt.mp hba)]⟩
    exact post_ext (s := s) (x := V.int (min a b)) R k' hv q
-- ranges as objects
noncomputable def rangeObj (a b c : Int) (t u v : Tok) : Obj := { cls := .type "range", data := .fields #[.int a t, .int b u, .int c v] }
theorem c_range1 {n : Int} (q : ∀ r t u v, Q (.ref r) ((r, .obj (rangeObj 0 n 1 t u v)) :: H)) : WPC C A (.ty "range") [.int n] Q H := wpc_ty fun avs s ra R => by
  obtain ⟨v, rfl, r1⟩ := rel1 ra
  simp only [VRel] at r1; obtain ⟨t, rfl⟩ := r1
  refine call_range_1 ?_
  have ext : ∀ b o, s.heap.get? b = some o → (s.heap.push (rangeObj 0 n 1 s.toks t (s.toks + 1))).get? b = some o := fun b o e => Heap.get?_push_of_some _ e
  exact ⟨.ref s.heap.objs.size, _, q _ _ _ _, rfl, R.add (t := s.toks + 1 + 1) (x := .obj (rangeObj 0 n 1 s.toks t (s.toks + 1))) ext (Nat.le_refl _) ⟨Heap.get?_push_size _ rfl, by simp [Frozen, rangeObj]⟩, kept_add (t := s.toks + 1 + 1) ext (Nat.le_refl _)⟩
theorem pi_range {r : Addr} {a b : Int} {t u v : Tok} (hA : A.handled = none) (h1 : a.natAbs < 2 ^ 60) (h2 : b.natAbs < 2 ^ 60) (hr : (r, AO.obj (rangeObj a b 1 t u v)) ∈ H) (q : QI C (rangeItem a b 1) H) : PI C A target (.ref r) QI H := fun x s rv R => by
  simp only [VRel] at rv; subst rv
  exact iter_range (s₀ := s) (s := s) hA (by decide) (range_small h1 h2) R (fun b o e => e) (Nat.le_refl _) ⟨_, _, rfl⟩ (R.objs _ hr).1 q
end
end
noncomputable section
noncomputable abbrev DObj (C : Cfg) (o : Obj) (kvs : List (Str × Value)) : Prop := o.IsDictOf (strKind C.prog C.w) kvs
section
variable {C C' : Cfg} {A : Around} {env : Env} {pos tpos : Pos} {target : Expr} {H H' : AH} {Q : V → AH → Prop} {QB : Bool → AH → Prop} {QI : Cfg → (Nat → AH → Option V → Prop) → AH → Prop}
theorem DObj.at {o : Obj} {d : Addr} {kvs : List (Str × Value)} {s : Shared} (D : DObj C o kvs) (R : Rel C H s) (h : (d, AO.obj o) ∈ H) : s.heap.DictOf (strKind C.prog C.w) d kvs :=
  Heap.dictOf_iff.mpr ⟨o, (R.objs _ h).1, D⟩
theorem op_in_dict {d : Addr} {o : Obj} {kvs : List (Str × Value)} {k : Str} (h : (d, AO.obj o) ∈ H) (D : DObj C o kvs) (hd : (d == sysModules) = false) (q : Q (.bool (valueAt kvs k).isSome) H) : Op2 C A (VRel C.X) (compareOp .In) (.str k) (.ref d) Q H := fun v w s hv hw R => by
  simp only [VRel] at hv hw; obtain ⟨t, rfl⟩ := hv; subst hw
  exact wpAny_in_of (knd := strKind C.prog C.w) (k := k) (strKind_is _ _ _ _) hd (D.at R h).mapOf (post_tk (s := s) (x := V.bool _) R rfl q)
theorem gi_dict {d : Addr} {o : Obj} {kvs : List (Str × Value)} {k : Str} {b : Addr} (h : (d, AO.obj o) ∈ H) (D : DObj C o kvs) (e : valueAt kvs k = some (.ref b)) (q : Q (.ref b) H) : GI C A (.ref d) (.str k) Q H := fun v w s hv hw R => by
  simp only [VRel] at hv hw; subst hv; obtain ⟨t, rfl⟩ := hw
  exact ⟨"dict", _, slot_dict_getitem.lookup, (D.at R h).typeIs, wpAny_getItem_of (knd := strKind C.prog C.w) (k := k) (strKind_is _ _ _ _) (D.at R h).mapOf e (post_tk (s := s) (x := V.ref b) R rfl q)⟩

theorem dictLoop_tests {kx vx target iter : Expr} {scope : Scope} {pos : Pos} {it : Value} {D : Addr} {env : Env} {prog : Program} {w : World} {R : Result → Shared → Prop} {s : Shared} (I : Nat → Shared → Prop)
    (turn : ∀ n s, I n s → wpAny (model prog w) A (pyNext it) (fun r s₁ => match r with
      | none => R (.ok .next) s₁
      | some v => wpAny (model prog w) A (letOwnedTupleGo target it v) (fun _ s₁ => wpAny (model prog w) A (assign target env v) (fun _ s₂ =>
          wpAny (model prog w) A (eval kx env) (fun kv s₄ => wpAny (model prog w) A (eval vx env) (fun vv s₅ =>
              wpAny (model prog w) A (dictSet D kv vv) (fun _ s₆ => ∃ m, m < n ∧ I m s₆) NoE s₅) NoE s₄) NoE s₂) NoE s₁) NoE s₁) NoE s)
    (n : Nat) (h : I n s) :
    codeAny (model prog w) A (.compLoop (.DictComp kx vx [⟨target, iter, [], 0⟩] scope pos) 0 it (.ref D) env) R s := by
  refine codeAny_loop rfl I (fun n s hI => ?_) n h
  show wpAny _ A ((compTurn (.DictComp kx vx [⟨target, iter, [], 0⟩] scope pos) 0 it (.ref D) env).onRaise (fun x => do noteFrame x env; theTreesLotGoes x)) _ _ s
  refine wpAny_noted ?_
  rw [compTurn_dict]
  refine wpAny_bind (wpAny_standAt (wpAny_bind (wpAny_mono (turn n s hI) (fun r s₁ h₁ => ?_) fun _ _ h' => h'.elim)))
  cases r with
  | none => exact wpAny_pure h₁
  | some v =>
    refine wpAny_bind (wpAny_mono h₁ (fun _ s₂ h₁ => ?_) fun _ _ h' => h'.elim)
    refine wpAny_bind (wpAny_mono h₁ (fun _ s₃ h₃ => wpAny_bind (wpAny_tests_nil ?_)) fun _ _ h' => h'.elim)
    simp only [if_true]
    exact wpAny_bind (wpAny_bind (wpAny_mono h₃ (fun kv s₄ h₄ => wpAny_bind (wpAny_holding (wpAny_mono h₄ (fun vv s₅ h₅ => wpAny_bind (wpAny_standAt (wpAny_holding (wpAny_mono h₅ (fun _ s₆ h₆ => wpAny_pure ⟨rfl, h₆⟩) fun _ _ h' => h'.elim)))) fun _ _ h' => h'.elim))) fun _ _ h' => h'.elim))

noncomputable def DictTurns (C C' : Cfg) (A : Around) (cenv : Env) (target kx vx : Expr) (d : Addr) (Item : Nat → AH → Option V → Prop) (Fin : AH → Prop) (H : AH) : Prop :=
  ∃ (I : Nat → AH → Prop) (N : Nat), I 0 H ∧ ∀ i H₁, i ≤ N → I i H₁ →
    (∃ x, i < N ∧ Item i H₁ (some x) ∧ WPA C' A cenv target x (fun _ H₂ => WP C' A (VRel C'.X) (eval kx cenv) (fun k H₃ => WP C' A (VRel C'.X) (eval vx cenv) (fun y H₄ =>
      ∃ nm b o kvs, k = .str nm ∧ y = .ref b ∧ DObj C o kvs ∧ kvs.length ≤ 1000 ∧ (d, AO.obj o) ∈ H₄ ∧ ∀ o', DObj C o' (stored kvs nm (.ref b)) → ∃ H₅, Upd d (.obj o) (.obj o') H₄ H₅ ∧ I (i + 1) H₅) H₃) H₂) H₁) ∨ (Item i H₁ none ∧ Fin H₁)

theorem dictLoop_gen {kx vx target iter : Expr} {scope : Scope} {it : Value} {d : Addr} {Item : Nat → AH → Option V → Prop} {fp wr : List Addr} {J : Nat → Heap → Prop} {s : Shared} {l : List Addr} {Fin : AH → Prop}
    (S : Src (C.hide l) A target it fp wr J Item) (R : Rel (C.hide l) H s) (hJ : J 0 s.heap) (hfp : ∀ b ∈ fp, b ∉ keys H) (hB : ∀ b ∈ wr, C.B.get? b = none) (hX : ∀ b ∈ wr, b ∉ C.X) (hl : ∀ b ∈ l, b ∈ wr)
    (T : DictTurns C (C.hide l) A env target kx vx d Item Fin H) :
    codeAny (model C.prog C.w) A (.compLoop (.DictComp kx vx [⟨target, iter, [], 0⟩] scope pos) 0 it (.ref d) env) (fun r s' => r = .ok .next ∧ ∃ H', Fin H' ∧ Rel C H' s' ∧ KB wr H s H' s') s := by
  refine Exists.elim T fun I T => Exists.elim T fun N T => dictLoop_tests (LSt (C.hide l) fp wr J I N H s) (fun n s₁ L => S.turn hB hX hl L T.2 (fun i H₁ x v s₂ hw rv R₂ go => ?_)
    (fun i H₁ s₂ hw R₂ kb => ⟨rfl, H₁, hw, R₂, kb⟩) (fun _ h => h) fun _ _ h => h) (N + 1) ⟨0, H, rfl, Nat.zero_le _, T.1, R, hJ, hfp, fun b o _ n e => ⟨e, n⟩⟩
  refine wpAny_mono (hw v _ rv R₂) (fun _ s₄ p71 => Post.el p71 fun _ H₂ q _ R₃ k₃ => wpAny_mono (q s₄ R₃) (fun kv s₅ p72 => Post.el p72 fun kk H₃ q₃ rk R₄ k₄ => wpAny_mono (q₃ s₅ R₄) (fun yv s₆ p73 => Post.el p73 fun y H₄ q₄ ry R₅ k₅ =>
    E46 q₄ fun nm b o kvs ek ey hD hz hm hk => ?_) fun _ _ e => e.elim) fun _ _ e => e.elim) fun _ _ e => e.elim
  subst ek ey
  simp only [VRel] at rk ry
  obtain ⟨t, rfl⟩ := rk
  subst ry
  refine wpAny_dictSet_pairs (knd := strKind C.prog C.w) (k := nm) (hsz := by rw [sizeLine_eq]; exact Nat.le_trans hz (by decide)) (strKind_is _ _ _ _) (Heap.dictOf_iff.mpr ⟨o, (R₅.objs _ hm).1, hD⟩) fun h₆ hd₆ hs₆ => E12 (Heap.dictOf_iff.mp hd₆) fun o' ho' hD' => E12 (hk o' hD') fun H₅ hu hI' => ?_
  have nf : ¬ Frozen (C.hide l).X d o' := E24 hD' fun es ep hc hdd _ _ => fz_data (fun _ _ => .inl (by rw [hdd]; nofun)) (fun _ => by rw [hdd]; nofun)
  have R₆ := R₅.upd hu (h' := h₆) (t := s₆.toks + 1) (fun b o n e => hs₆.extBut b o n e) ⟨ho', nf⟩
  exact (go H₅ _ R₆.1 (((k₃.trans k₄).trans k₅).trans R₆.2)).1 hI'

noncomputable def emptyDict : Obj := { cls := .type "dict", dict := none, data := .dict #[] }
theorem emptyDict_is : DObj C emptyDict [] := by
  obtain ⟨o, ho, h⟩ := Heap.dictOf_iff.mp (Heap.DictOf.new (knd := strKind C.prog C.w) ⟨#[], default⟩)
  rw [Heap.get?_push_size _ rfl] at ho
  cases ho
  exact h
theorem wp_DictComp {kx vx target iter : Expr} {scope : Scope} {cl : List (Str × Addr)} {ln : List Str}
    (hclos : closureFor scope env = pure cl) (hcell : ∀ x ∈ scope.names, x.2 ≠ .cell) (hkind : scope.kind = .function) (hnames : ∀ x ∈ scope.names, x.2 = .local → scope.names.lookup x.1 = some .local) (nd : ln.Nodup)
    (h : WPI C A env iter target (fun C' Item H₁ => ∀ d cn, DictTurns C C' A (compEnvC scope cl cn env) target kx vx d Item
      (fun H₂ => ∃ vals H₃, Pick (cn, .ns ln vals) H₂ H₃ ∧ Q (.ref d) H₃) ((cn, .ns ln (ln.map fun _ => none)) :: (d, .obj emptyDict) :: H₁)) H)
    (hs : ∀ x, foldedSetIterable iter env x = pure x := by intro _; with_unfolding_all rfl) :
    WP C A (VRel C.X) (eval (.DictComp kx vx [⟨target, iter, [], 0⟩] scope pos) env) Q H := fun s R => by
  rw [arm_eval_DictComp]
  refine wpAny_comprehension_free (use := none) rfl hs hclos hkind hnames (wpAny_mono (h s R) (fun v s₁ h₁ => wpAny_mono h₁ (fun it s₂ h₂ => ?_) fun _ _ e => e) fun _ _ e => e)
  refine ItPost.elim h₂ R fun l fp wr J Item H₂ T S hJ hk hB hX hl R₂ k₂ kk => ?_
  refine wpAny_newObj_type (wpAny_newFunctionEnv hcell (by intro y hy; simp at hy) (fun h₁ hns hsb => ?_) hkind) (by size_fits)
  refine cframe (t := s₂.toks + 0) (x := .obj emptyDict) S R₂ hJ rfl hk (fun h e => ⟨e, by simp [Frozen, emptyDict]⟩) nd hns (fun b o e => hsb.extBut b o (Nat.ne_of_lt (Heap.lt_size e)) (Heap.get?_push_of_some _ e)) fun R₄ hJ₁ hf₁ k₄ => ?_
  have fin : ∀ r s₅, (r = .ok .next ∧ ∃ H', (∃ vals H₃, Pick ((s₂.heap.push emptyDict).objs.size, .ns ln vals) H' H₃ ∧ Q (.ref s₂.heap.objs.size) H₃) ∧ Rel C H' s₅ ∧ KB wr _ _ H' s₅) →
      compPost (model C.prog C.w) A NoE none (Post C (VRel C.X) Q H s) (.ref s₂.heap.objs.size) (s₂.heap.push emptyDict).objs.size r s₅ := fun r s₅ h₅ => h₅.1 ▸ E13 h₅.2 fun H₅ p R₅ kb => E22 p fun vals H₆ p q => (R₅.objs _ p.mem).2.elim fun m hm => ⟨m, hm.1, fun h' hs' =>
      have g := comp_go R₅ p hs'; ⟨.ref _, H₆, q, rfl, g.1, (kk _ _ _ _ (k₂.trans k₄) kb).trans g.2⟩⟩
  have loop' := codeAny_mono (dictLoop_gen (scope := scope) (pos := pos) (iter := iter) S R₄ hJ₁ hf₁ hB hX hl (T _ _)) fin
  exact codeAny_compStart_dict loop' (wpAny_mono (S.self 0 _ hJ₁) (fun r s' e => e.1 ▸ e.2 ▸ loop') fun _ _ e => e.elim)
theorem wp_DC {kx vx target iter : Expr} {scope : Scope} {fs ln' gn' ln gn : List Str} {cn : List (Str × Addr)} {L : Addr} {cs : List Addr} (FE : FEnv env L ln cn gn) (O : CpOk scope ln' gn' fs) (e : (scope.names.filter (·.2 == .free)).map (·.1) = fs) (hm : ∀ p ∈ fs.zip cs, p ∈ cn)
    (h : WPI C A env iter target (fun C' Item H₁ => ∀ d c cenv, FEnv cenv c ln' (fs.zip cs).reverse gn' → DictTurns C C' A cenv target kx vx d Item
      (fun H₂ => ∃ vals H₃, Pick (c, .ns ln' vals) H₂ H₃ ∧ Q (.ref d) H₃) ((c, .ns ln' (ln'.map fun _ => none)) :: (d, .obj emptyDict) :: H₁)) H)
    (hl : fs.length = cs.length) (ndf : fs.Nodup)
    (hs : ∀ x, foldedSetIterable iter env x = pure x) :
    WP C A (VRel C.X) (eval (.DictComp kx vx [⟨target, iter, [], 0⟩] scope pos) env) Q H :=
  wp_DictComp (closure_of FE e hl hm) O.nocell O.kind (nodup_lookup O.nodup) O.nd (h.mono fun _ _ _ q a c => q a c _ (O.env FE hl ndf)) hs
end
end
noncomputable section
theorem listItem_some {l : Addr} {xs : List V} {i : Nat} {x : V} {H : AH} (h : (l, AO.list xs) ∈ H) (e : xs[i]? = some x) : listItem l i H (some x) := ⟨xs, h, e.symm⟩
theorem listItem_none {l : Addr} {xs : List V} {i : Nat} {H : AH} (h : (l, AO.list xs) ∈ H) (e : xs.length ≤ i) : listItem l i H none := ⟨xs, h, (List.getElem?_eq_none e).symm⟩
section
variable {C : Cfg} {A : Around} {α β : Type} {T : Heap → β → α → Prop} {t : Sem α} {Q Q' : β → AH → Prop} {H : AH}
theorem WP.less (h : WP C A T t (fun x H₁ => ∃ X, Sub X H₁ ∧ Q x X) H) : WP C A T t Q H := fun s R =>
  wpAny_mono (h s R) (fun _ _ p => Post.el p fun x H₁ q r R₁ kp => q.elim fun X q => ⟨x, X, q.2, r, R₁.sub q.1, kp.sub q.1⟩) fun _ _ e => e
end
noncomputable def nls (rs : List Addr) (vss : List (List V)) : AH := ((rs.zip vss).map fun p => (p.1, AO.list p.2)).reverse
theorem nl_snoc {rs : List Addr} {vss : List (List V)} (r : Addr) (vs : List V) (h : rs.length = vss.length) : nls (rs ++ [r]) (vss ++ [vs]) = (r, .list vs) :: nls rs vss := by
  simp [nls, List.zip_append h]
theorem nl_mem {rs : List Addr} {vss : List (List V)} {H : AH} {i : Nat} {r : Addr} {vs : List V} (h1 : rs[i]? = some r) (h2 : vss[i]? = some vs) : (r, AO.list vs) ∈ nls rs vss ++ H := by
  refine List.mem_append_left _ (List.mem_reverse.mpr (List.mem_map.mpr ⟨(r, vs), ?_, rfl⟩))
  exact List.mem_of_getElem? (i := i) (by rw [List.getElem?_zip_eq_some]; exact ⟨h1, h2⟩)
section
variable {C C' : Cfg} {A : Around} {cenv : Env} {cn' : List (Str × Addr)} {gn' : List Str} {H : AH} {c a : Addr} {elt : Expr}
theorem turns_map {y : Str} {py : Pos} {xs ys : List V} {Item : Nat → AH → Option V → Prop} {Fin : List V → AH → Prop} (FE : FEnv cenv c [y] cn' gn') (hl : ys.length = xs.length) (hz : xs.length ≤ 100000)
    (hI : ∀ (i : Nat) x o acc, xs[i]? = some x → Item i ((c, .ns [y] [o]) :: (a, .list acc) :: H) (some x)) (hN : ∀ o acc, Item xs.length ((c, .ns [y] [o]) :: (a, .list acc) :: H) none)
    (he : ∀ (i : Nat) x v acc, xs[i]? = some x → ys[i]? = some v → WP C' A (VRel C'.X) (eval elt cenv) (fun u H₄ => u = v ∧ Sub ((c, .ns [y] [some x]) :: (a, .list acc) :: H) H₄) ((c, .ns [y] [some x]) :: (a, .list acc) :: H))
    (hf : ∀ o, Fin ys ((c, .ns [y] [o]) :: (a, .list ys) :: H)) : CompTurns C C' A cenv (.Name y py) [] elt a Item Fin ((c, .ns [y] [none]) :: (a, .list []) :: H) := by
  refine ⟨fun i acc H₁ => acc = ys.take i ∧ ∃ o, H₁ = (c, .ns [y] [o]) :: (a, .list acc) :: H, xs.length, ⟨rfl, none, rfl⟩, ?_⟩
  rintro i acc H₁ hi ⟨rfl, o, rfl⟩
  by_cases h : i < xs.length
  · left
    have hx : xs[i]? = some xs[i] := List.getElem?_eq_getElem h
    have hy : ys[i]? = some (ys[i]'(hl ▸ h)) := List.getElem?_eq_getElem _
    refine ⟨xs[i], h, hI i _ _ _ hx, asg_Name (store_local FE .head .head (wpt_nil ⟨fun _ => ?_, fun e => nomatch e⟩))⟩
    refine WP.less ((he i _ _ _ hx hy).mono ?_)
    rintro u H₄ ⟨rfl, hs⟩
    exact ⟨_, hs, by rw [List.length_take]; lia, _, .tail .head, List.take_append_getElem _, _, rfl⟩
  · right
    have : i = xs.length := by lia
    subst this
    rw [← hl, List.take_length]
    exact ⟨hl ▸ hN _ _, hf _⟩
theorem turns_map2 {y z : Str} {py pz pt : Pos} {k : Nat} {xs ys : List V} {Item : Nat → AH → Option V → Prop} {Fin : List V → AH → Prop} (FE : FEnv cenv c [y, z] cn' gn') (hA : A.handled = none) (hl : ys.length = xs.length) (hz : xs.length ≤ 100000)
    (hP : ∀ (i : Nat) x, xs[i]? = some x → ∃ u w, x = .tup [u, w])
    (hI : ∀ (i : Nat) x os acc, xs[i]? = some x → Item i ((c, .ns [y, z] os) :: (a, .list acc) :: H) (some x)) (hN : ∀ os acc, Item xs.length ((c, .ns [y, z] os) :: (a, .list acc) :: H) none)
    (he : ∀ (i : Nat) u w v acc, xs[i]? = some (.tup [u, w]) → ys[i]? = some v → WP C' A (VRel C'.X) (eval elt cenv) (fun r H₄ => r = v ∧ Sub ((c, .ns [y, z] [some u, some w]) :: (a, .list acc) :: H) H₄) ((c, .ns [y, z] [some u, some w]) :: (a, .list acc) :: H))
    (hf : ∀ os, Fin ys ((c, .ns [y, z] os) :: (a, .list ys) :: H)) : CompTurns C C' A cenv (.Tuple [.Name y py, .Name z pz] k pt) [] elt a Item Fin ((c, .ns [y, z] [none, none]) :: (a, .list []) :: H) := by
  refine ⟨fun i acc H₁ => acc = ys.take i ∧ ∃ o o', H₁ = (c, .ns [y, z] [o, o']) :: (a, .list acc) :: H, xs.length, ⟨rfl, none, none, rfl⟩, ?_⟩
  rintro i acc H₁ hi ⟨rfl, o, o', rfl⟩
  by_cases h : i < xs.length
  · left
    have hx : xs[i]? = some xs[i] := List.getElem?_eq_getElem h
    have hy : ys[i]? = some (ys[i]'(hl ▸ h)) := List.getElem?_eq_getElem _
    refine ⟨xs[i], h, hI i _ _ _ hx, ?_⟩
    obtain ⟨u, w, e⟩ := hP i _ hx
    rw [e] at hx ⊢
    refine asg_Tuple hA (wpas_cons (asg_Name (store_local FE .head .head (wpas_cons (asg_Name (store_local FE .head (.tail .head) (wpas_nil (wpt_nil ⟨fun _ => ?_, fun e => nomatch e⟩))))))))
    refine WP.less ((he i _ _ _ _ hx hy).mono ?_)
    rintro r H₄ ⟨rfl, hs⟩
    exact ⟨_, hs, by rw [List.length_take]; lia, _, .tail .head, List.take_append_getElem _, _, _, rfl⟩
  · right
    have : i = xs.length := by lia
    subst this
    rw [← hl, List.take_length]
    exact ⟨hl ▸ hN _ _, hf _⟩
theorem turns_new {y : Str} {py : Pos} {xs : List V} {vss : List (List V)} {Item : Nat → AH → Option V → Prop} {Fin : List V → AH → Prop} (FE : FEnv cenv c [y] cn' gn') (hl : vss.length = xs.length) (hz : xs.length ≤ 100000)
    (hI : ∀ (i : Nat) x o acc G, (∀ p ∈ H, p ∈ G) → xs[i]? = some x → Item i ((c, .ns [y] [o]) :: (a, .list acc) :: G) (some x)) (hN : ∀ o acc G, (∀ p ∈ H, p ∈ G) → Item xs.length ((c, .ns [y] [o]) :: (a, .list acc) :: G) none)
    (he : ∀ (i : Nat) x vs acc G, (∀ p ∈ H, p ∈ G) → xs[i]? = some x → vss[i]? = some vs → WP C' A (VRel C'.X) (eval elt cenv) (fun u H₄ => ∃ r, u = .ref r ∧ Sub ((c, .ns [y] [some x]) :: (a, .list acc) :: (r, .list vs) :: G) H₄) ((c, .ns [y] [some x]) :: (a, .list acc) :: G))
    (hf : ∀ o rs, rs.length = vss.length → Fin (rs.map V.ref) ((c, .ns [y] [o]) :: (a, .list (rs.map V.ref)) :: (nls rs vss ++ H))) : CompTurns C C' A cenv (.Name y py) [] elt a Item Fin ((c, .ns [y] [none]) :: (a, .list []) :: H) := by
  refine ⟨fun i acc H₁ => ∃ rs o, rs.length = i ∧ acc = rs.map V.ref ∧ H₁ = (c, .ns [y] [o]) :: (a, .list acc) :: (nls rs (vss.take i) ++ H), xs.length, ⟨[], none, rfl, rfl, rfl⟩, ?_⟩
  rintro i acc H₁ hi ⟨rs, o, hr, rfl, rfl⟩
  by_cases h : i < xs.length
  · left
    have hx : xs[i]? = some xs[i] := List.getElem?_eq_getElem h
    have hy : vss[i]? = some (vss[i]'(hl ▸ h)) := List.getElem?_eq_getElem _
    refine ⟨xs[i], h, hI i _ _ _ _ (fun p => List.mem_append_right _) hx, asg_Name (store_local FE .head .head (wpt_nil ⟨fun _ => ?_, fun e => nomatch e⟩))⟩
    refine WP.less ((he i _ _ _ _ (fun p => List.mem_append_right _) hx hy).mono ?_)
    rintro u H₄ ⟨r, rfl, hs⟩
    refine ⟨_, hs, by rw [List.length_map]; lia, _, .tail .head, rs ++ [r], some xs[i], by simp [hr], by simp, ?_⟩
    rw [← List.take_append_getElem (hl ▸ h), nl_snoc _ _ (by rw [List.length_take]; lia)]
    rfl
  · right
    have : i = xs.length := by lia
    subst this
    rw [← hl, List.take_length]
    exact ⟨hl ▸ hN _ _ _ fun p => List.mem_append_right _, hf _ _ (hl ▸ hr)⟩
theorem turns_mapL {α : Type} {l : List α} {g f : α → V} {y : Str} {py : Pos} {Item : Nat → AH → Option V → Prop} {Fin : List V → AH → Prop} (FE : FEnv cenv c [y] cn' gn') (hz : l.length ≤ 100000)
    (hI : ∀ (i : Nat) k o acc, l[i]? = some k → Item i ((c, .ns [y] [o]) :: (a, .list acc) :: H) (some (g k))) (hN : ∀ o acc, Item l.length ((c, .ns [y] [o]) :: (a, .list acc) :: H) none)
    (he : ∀ k ∈ l, ∀ acc, WP C' A (VRel C'.X) (eval elt cenv) (fun u H₄ => u = f k ∧ Sub ((c, .ns [y] [some (g k)]) :: (a, .list acc) :: H) H₄) ((c, .ns [y] [some (g k)]) :: (a, .list acc) :: H))
    (hf : ∀ o, Fin (l.map f) ((c, .ns [y] [o]) :: (a, .list (l.map f)) :: H)) : CompTurns C C' A cenv (.Name y py) [] elt a Item Fin ((c, .ns [y] [none]) :: (a, .list []) :: H) :=
  turns_map (xs := l.map g) (ys := l.map f) FE (by simp) (by simpa using hz) (fun i x o acc h => by
    simp only [List.getElem?_map, Option.map_eq_some_iff] at h
    obtain ⟨k, hk, rfl⟩ := h
    exact hI i k o acc hk) (fun o acc => by simpa using hN o acc) (fun i x v acc hx hv => by
    simp only [List.getElem?_map, Option.map_eq_some_iff] at hx hv
    obtain ⟨k, hk, rfl⟩ := hx
    rw [hk] at hv
    simp only [Option.some.injEq, exists_eq_left'] at hv
    subst hv
    exact he k (List.mem_of_getElem? hk) acc) hf
theorem turns_newL {α : Type} {l : List α} {g : α → V} {f : α → List V} {y : Str} {py : Pos} {Item : Nat → AH → Option V → Prop} {Fin : List V → AH → Prop} (FE : FEnv cenv c [y] cn' gn') (hz : l.length ≤ 100000)
    (hI : ∀ (i : Nat) k o acc G, (∀ p ∈ H, p ∈ G) → l[i]? = some k → Item i ((c, .ns [y] [o]) :: (a, .list acc) :: G) (some (g k))) (hN : ∀ o acc G, (∀ p ∈ H, p ∈ G) → Item l.length ((c, .ns [y] [o]) :: (a, .list acc) :: G) none)
    (he : ∀ (i : Nat) k, l[i]? = some k → ∀ acc G, (∀ p ∈ H, p ∈ G) → WP C' A (VRel C'.X) (eval elt cenv) (fun u H₄ => ∃ r, u = .ref r ∧ Sub ((c, .ns [y] [some (g k)]) :: (a, .list acc) :: (r, .list (f k)) :: G) H₄) ((c, .ns [y] [some (g k)]) :: (a, .list acc) :: G))
    (hf : ∀ o rs, rs.length = l.length → Fin (rs.map V.ref) ((c, .ns [y] [o]) :: (a, .list (rs.map V.ref)) :: (nls rs (l.map f) ++ H))) : CompTurns C C' A cenv (.Name y py) [] elt a Item Fin ((c, .ns [y] [none]) :: (a, .list []) :: H) :=
  turns_new (xs := l.map g) (vss := l.map f) FE (by simp) (by simpa using hz) (fun i x o acc P hP h => by
    simp only [List.getElem?_map, Option.map_eq_some_iff] at h
    obtain ⟨k, hk, rfl⟩ := h
    exact hI i k o acc P hP hk) (fun o acc P hP => by simpa using hN o acc P hP) (fun i x vs acc P hP hx hv => by
    simp only [List.getElem?_map, Option.map_eq_some_iff] at hx hv
    obtain ⟨k, hk, rfl⟩ := hx
    rw [hk] at hv
    simp only [Option.some.injEq, exists_eq_left'] at hv
    subst hv
    exact he i k hk acc P hP) fun o rs h => hf o rs (by simpa using h)
theorem turns_enumL {α : Type} {l : List α} {g : α → V} {f : Nat → α → V} {y z : Str} {py pz pt : Pos} {k : Nat} {Item : Nat → AH → Option V → Prop} {Fin : List V → AH → Prop} (FE : FEnv cenv c [y, z] cn' gn') (hA : A.handled = none) (hz : l.length ≤ 100000)
    (hI : ∀ (i : Nat) u os acc, l[i]? = some u → Item i ((c, .ns [y, z] os) :: (a, .list acc) :: H) (some (.tup [.int (i : Nat), g u]))) (hN : ∀ os acc, Item l.length ((c, .ns [y, z] os) :: (a, .list acc) :: H) none)
    (he : ∀ (i : Nat) u, l[i]? = some u → ∀ acc, WP C' A (VRel C'.X) (eval elt cenv) (fun r H₄ => r = f i u ∧ Sub ((c, .ns [y, z] [some (.int (i : Nat)), some (g u)]) :: (a, .list acc) :: H) H₄) ((c, .ns [y, z] [some (.int (i : Nat)), some (g u)]) :: (a, .list acc) :: H))
    (hf : ∀ os, Fin (l.mapIdx f) ((c, .ns [y, z] os) :: (a, .list (l.mapIdx f)) :: H)) : CompTurns C C' A cenv (.Tuple [.Name y py, .Name z pz] k pt) [] elt a Item Fin ((c, .ns [y, z] [none, none]) :: (a, .list []) :: H) := by
  refine turns_map2 (xs := l.mapIdx fun i u => .tup [.int (i : Nat), g u]) (ys := l.mapIdx f) FE hA (by simp) (by simpa using hz) (fun i x h => ?_) (fun i x os acc h => ?_) (fun os acc => by simpa using hN os acc) (fun i u w v acc hx hv => ?_) hf
  · simp only [List.getElem?_mapIdx, Option.map_eq_some_iff] at h
    obtain ⟨u, hu, rfl⟩ := h
    exact ⟨_, _, rfl⟩
  · simp only [List.getElem?_mapIdx, Option.map_eq_some_iff] at h
    obtain ⟨u, hu, rfl⟩ := h
    exact hI i u os acc hu
  · simp only [List.getElem?_mapIdx, Option.map_eq_some_iff] at hx hv
    obtain ⟨u', hu, e⟩ := hx
    rw [hu] at hv
    simp only [Option.some.injEq, exists_eq_left'] at hv
    subst hv
    cases e
    exact he i u' hu acc
theorem enum_some {l : Addr} {xs : List V} {i : Nat} {x : V} {H : AH} (h : (l, AO.list xs) ∈ H) (e : xs[i]? = some x) : enumItem (listItem l) i H (some (.tup [.int (i : Nat), x])) := ⟨some x, listItem_some h e, rfl⟩
theorem enum_none {l : Addr} {xs : List V} {i : Nat} {H : AH} (h : (l, AO.list xs) ∈ H) (e : xs.length ≤ i) : enumItem (listItem l) i H none := ⟨none, listItem_none h e, rfl⟩
theorem range_item {p i k : Nat} {H : AH} (h : (List.range p)[i]? = some k) : rangeItem 0 (p : Int) 1 i H (some (.int (k : Nat))) := by
  obtain ⟨hk, rfl⟩ := List.getElem?_eq_some_iff.mp h
  rw [List.length_range] at hk
  rw [List.getElem_range]
  exact range_some (by lia)
theorem range_end {p : Nat} {H : AH} : rangeItem 0 (p : Int) 1 (List.range p).length H none := range_none (by simp)
end
theorem Sub.app {X H H' : AH} (h : Sub H H') : Sub (X ++ H) (X ++ H') := by
  induction X with
  | nil => exact h
  | cons x X ih => exact .pick .head ih
theorem sum_cast : ∀ l : List Nat, (l.map Int.ofNat).sum = (l.sum : Int)
  | [] => rfl
  | x :: l => by rw [List.map_cons, List.sum_cons, sum_cast l, List.sum_cons]; push_cast; rfl
theorem c_sumN {C : Cfg} {A : Around} {H : AH} {Q : V → AH → Prop} {l : Addr} {ds : List Nat} (hA : A.handled = none) (hl : (l, AO.list (ds.map fun d => V.int (d : Nat))) ∈ H) (hb : ∀ d ∈ ds, d ≤ 2 ^ 50) (hz : ds.length ≤ 1000) (q : Q (.int (ds.sum : Nat)) H) : WPC C A (.bi "sum") [.ref l] Q H :=
  c_sum (xs := ds.map Int.ofNat) hA (by rw [List.map_map]; exact hl) (fun x hx => by obtain ⟨d, hd, rfl⟩ := List.mem_map.mp hx; exact hb d hd) (by simpa using hz) (by rw [sum_cast]; exact q)
theorem swaps_cell {env : Env} {L : Addr} {ln gn : List Str} {cn : List (Str × Addr)} (FE : FEnv env L ln cn gn) {elt : Expr} {gens : List Comprehension} {scope : Scope} {p tp : Pos} {t : Str} {c : Addr} {l : Nat} (ht : (t, c) ∈ cn) :
    swapsWith (.ListComp elt gens scope p) (some (.Name t tp)) l env = pure false := by
  have h2 : (env.kindOf t == some .local) = false := by
    rcases (FE.hc _ ht).1 with h | h <;> rw [h] <;> rfl
  show pure (env.blockKind == .function && env.kindOf t == some .local && tp.line == p.line && !(scope.names.any fun x => x.1 == t && (x.2 == .local || x.2 == .cell))) = _
  rw [h2, Bool.and_false, Bool.false_and, Bool.false_and]
theorem swap_const {env : Env} {ts vs : List Expr} {k k' : Nat} {p p' : Pos} (h : vs.all (foldedForSure 8) = true) : swappedStores [.Tuple ts k p] (.Tuple vs k' p') env = pure none := by
  unfold swappedStores
  dsimp only
  split
  · rfl
  split
  · rfl
  split
  · rfl
  first | rfl | (simp only [h, if_true]; done) | (simp only [h, if_true]; rfl)
end
noncomputable section
theorem eqv_list_self : ∀ {ds : List PyData}, (∀ d ∈ ds, PyData.eqv d d = true) → PyData.eqv (.list ds) (.list ds) = true
  | [], _ => eqv_nil
  | d :: ds, h => by rw [eqv_cons, h d (.head _), eqv_list_self fun e he => h e (.tail _ he)]; rfl
theorem eqv_tup_self {ds : List PyData} (h : ∀ d ∈ ds, PyData.eqv d d = true) : PyData.eqv (.tuple ds) (.tuple ds) = true := by
  have := eqv_list_self h
  simp only [PyData.eqv] at this ⊢
  exact this
theorem eqv_int_self {i : Int} : PyData.eqv (.int i) (.int i) = true := by rw [eqv_int]; simp
theorem eqv_strs_self {l : List (List Nat)} : PyData.eqv (dSs l) (dSs l) = true := by rw [eqv_strs]; simp
theorem dok_tup {n : Nat} {ds : List PyData} (h : ∀ d ∈ ds, DOk n d) : DOk (n + 1) (.tuple ds) := by
  obtain ⟨h1, h2⟩ := dok_all h
  exact ⟨by simpa only [PyData.canLay0] using h1, by simp only [PyData.depth]; lia⟩
theorem DOk.mono {n m : Nat} {d : PyData} (h : DOk n d) (k : n ≤ m) : DOk m d := ⟨h.1, Nat.le_trans h.2 k⟩
section
variable {a : Addr} {H : AH}
theorem ds_of : ∀ {ds : List PyData} {vs : List V}, ds.length = vs.length → (∀ (i : Nat) d v, ds[i]? = some d → vs[i]? = some v → DRel H d v) → DsRel H ds vs
  | [], [], _, _ => ds_nil
  | d :: ds, v :: vs, h, k => ds_cons (k 0 d v rfl rfl) (ds_of (by simpa using h) fun i e w h1 h2 => k (i + 1) e w h1 h2)
  | [], _ :: _, h, _ => by simp at h
  | _ :: _, [], h, _ => by simp at h
theorem dr_tup {ds : List PyData} {vs : List V} (r : DsRel H ds vs) : DRel H (.tuple ds) (.tup vs) := by simp only [DRel]; exact ⟨vs, rfl, r⟩
theorem dr_lists {rs : List Addr} {wss : List (List (List Nat))} (h : (a, AO.list (rs.map V.ref)) ∈ H) (hl : rs.length = wss.length) (k : ∀ (i : Nat) r ws, rs[i]? = some r → wss[i]? = some ws → (r, AO.list (strVs ws)) ∈ H) : DRel H (.list (wss.map dSs)) (.ref a) := by
  refine dr_list h (ds_of (by simp [hl]) fun i d v h1 h2 => ?_)
  simp only [List.getElem?_map, Option.map_eq_some_iff] at h1 h2
  obtain ⟨ws, hw, rfl⟩ := h1
  obtain ⟨r, hr, rfl⟩ := h2
  exact dr_strs (k i r ws hr hw)
end
theorem wzv_self {wss : List (List (List Nat))} : PyData.eqv (.list (wss.map dSs)) (.list (wss.map dSs)) = true := eqv_list_self fun d hd => by
  obtain ⟨ws, _, rfl⟩ := List.mem_map.mp hd
  exact eqv_strs_self
theorem dok_lists {wss : List (List (List Nat))} (h : ∀ ws ∈ wss, ∀ w ∈ ws, ∀ c ∈ w, c < 0x110000) : SeqAt.shaped (.list (wss.map dSs)) = true :=
  (dok_list (n := 1) fun d hd => by
    obtain ⟨ws, hw, rfl⟩ := List.mem_map.mp hd
    exact dok_strs (h ws hw)).shaped (by decide)
theorem Upd.app {a : Addr} {x y : AO} {X H H' : AH} (h : Upd a x y H H') : Upd a x y (X ++ H) (X ++ H') := by
  induction X with
  | nil => exact h
  | cons p X ih => exact .tail ih
theorem Pick.app {p : Addr × AO} {X H : AH} : Pick p (X ++ p :: H) (X ++ H) := by
  induction X with
  | nil => exact .head
  | cons q X ih => exact .tail ih
theorem hole_of_mem {a : Addr} {x : AO} : ∀ {H : AH}, (a, x) ∈ H → ∃ K, Hole a x H K
  | [], h => nomatch h
  | p :: H, h => by
    rcases List.mem_cons.mp h with e | h
    · subst e; exact ⟨_, .head⟩
    · obtain ⟨K, hk⟩ := hole_of_mem h; exact ⟨_, .tail hk⟩
theorem hole2_of_mem {a b : Addr} {x y : AO} (ne : (a, x) ≠ (b, y)) : ∀ {H : AH}, (a, x) ∈ H → (b, y) ∈ H → ∃ K, Hole2 a x b y H K
  | [], h, _ => nomatch h
  | p :: H, h1, h2 => by
    rcases List.mem_cons.mp h1 with e | g1
    · subst e
      rcases List.mem_cons.mp h2 with e | g2
      · exact absurd e.symm ne
      · obtain ⟨K, hk⟩ := hole_of_mem g2; exact ⟨_, .fst hk⟩
    · rcases List.mem_cons.mp h2 with e | g2
      · obtain ⟨K, hk⟩ := hole_of_mem g1; subst e; exact ⟨_, .snd hk⟩
      · obtain ⟨K, hk⟩ := hole2_of_mem ne g1 g2; exact ⟨_, .tail hk⟩
theorem WP.nd {C : Cfg} {A : Around} {α β : Type} {T : Heap → β → α → Prop} {t : Sem α} {Q : β → AH → Prop} {H : AH} (h : (keys H).Nodup → WP C A T t Q H) : WP C A T t Q H := fun s R => h R.nd s R
theorem Pick.app1 {p q : Addr × AO} {X H : AH} : Pick p (X ++ q :: p :: H) (X ++ q :: H) := by
  induction X with
  | nil => exact .tail .head
  | cons q X ih => exact .tail ih
theorem WP.fresh {C : Cfg} {A : Around} {α β : Type} {T : Heap → β → α → Prop} {t : Sem α} {Q : β → AH → Prop} {H : AH} (h : (∀ p ∈ H, C.B.get? p.1 = none) → WP C A T t Q H) : WP C A T t Q H := fun s R => h R.fresh s R
theorem swaps_cellD {env : Env} {L : Addr} {ln gn : List Str} {cn : List (Str × Addr)} (FE : FEnv env L ln cn gn) {kx vx : Expr} {gens : List Comprehension} {scope : Scope} {p tp : Pos} {t : Str} {c : Addr} {l : Nat} (ht : (t, c) ∈ cn) :
    swapsWith (.DictComp kx vx gens scope p) (some (.Name t tp)) l env = pure false := by
  have h2 : (env.kindOf t == some .local) = false := by
    rcases (FE.hc _ ht).1 with h | h <;> rw [h] <;> rfl
  show pure (env.blockKind == .function && env.kindOf t == some .local && tp.line == p.line && !(scope.names.any fun x => x.1 == t && (x.2 == .local || x.2 == .cell))) = _
  rw [h2, Bool.and_false, Bool.false_and, Bool.false_and]
end
open PySem.Challenge
set_option hygiene false in
local macro_rules | `(tactic| walk_at "mem") => `(tactic| ((with_reducible (repeat (first | assumption | exact List.mem_cons_self | apply List.mem_cons_of_mem))); done))
set_option hygiene false in
local macro_rules | `(tactic| walk_at "at") => `(tactic| ((with_reducible (repeat (first | exact At.head | apply At.tail))); done))
set_option hygiene false in
local macro_rules | `(tactic| walk_at "put") => `(tactic| ((with_reducible (repeat (first | exact Put.head | apply Put.tail))); done))
set_option hygiene false in
local macro_rules | `(tactic| walk_at "upd") => `(tactic| ((with_reducible (repeat (first | assumption | exact Upd.head | apply Upd.tail))); done))
set_option hygiene false in
local macro_rules | `(tactic| walk_at "pick") => `(tactic| ((with_reducible (repeat (first | exact Pick.head | apply Pick.tail))); done))
set_option hygiene false in
local macro_rules | `(tactic| walk_at "init") => `(tactic| ((with_reducible (repeat (first | exact Init.done | apply Init.arg | apply Init.none))); done))
set_option hygiene false in
local macro_rules | `(tactic| walk_at "sub") => `(tactic| ((with_reducible (repeat (first | exact Sub.refl _ | apply Sub.drop))); done))
set_option hygiene false in
local macro_rules | `(tactic| walk_at "name") => `(tactic| first
  | exact wp_local FE (by walk_at "mem") (by walk_at "at") ?_
  | exact wp_cell FE (by walk_at "mem") (by walk_at "mem") ?_
  | exact wp_glob G FE (by walk_at "mem") (by walk_at "mem") ?_)
set_option hygiene false in
local macro_rules | `(tactic| walk_at "gB") => `(tactic| first
  | refine wp1_Assign_Name ?_
  | refine wp1_Return ?_
  | refine wp1_If ?_
  | refine wp1_Expr ?_ (FEnv.inter FE)
  | refine wp1_Aug_Name ?_
  | refine wp1_Return_none ?_
  | refine wp1_Break ?_
  | refine wp1_Continue ?_)
set_option hygiene false in
local macro_rules | `(tactic| walk_at "gC") => `(tactic| first
  | refine wp_local FE (by walk_at "mem") (by walk_at "at") ?_
  | refine wp_cell FE (by walk_at "mem") (by walk_at "mem") ?_
  | refine wp_glob G FE (by walk_at "mem") (by walk_at "mem") ?_)
set_option hygiene false in
local macro_rules | `(tactic| walk_at "gD") => `(tactic| first
  | refine wp_int ?_
  | refine wp_Call_Name ?_
  | refine wp_Call_Attr ?_
  | refine wp_BinOp ?_
  | refine wp_Slice ?_
  | refine wp_Subscript ?_
  | refine wp_Attribute ?_
  | refine wp_str ?_
  | refine wp_Compare ?_
  | refine wp_UnaryOp ?_
  | refine wp_IfExp ?_
  | refine wp_Tuple ?_
  | refine wp_List ?_
  | refine wp_bool ?_
  | refine wp_none ?_
  | refine wp_bytes ?_)
set_option hygiene false in
local macro_rules | `(tactic| walk_at "gE") => `(tactic| first
  | refine wpb_Compare ?_
  | refine wpb_Not ?_
  | refine wpb_Name ?_
  | refine wpb_Attribute ?_
  | refine wpb_Subscript ?_
  | refine wpb_Call ?_
  | refine wpb_BinOp ?_
  | refine wpb_BoolOp ?_)
set_option hygiene false in
local macro_rules | `(tactic| walk_at "gF") => `(tactic| first
  | refine asg_Name ?_
  | ((show Op1 _ _ _ (storeName _ _) _ _ _); (first
    | refine store_local FE (by walk_at "upd") (by walk_at "put") ?_
    | refine store_cell FE (by walk_at "mem") (by walk_at "upd") ?_))
  | refine tr_bool ?_
  | refine tr_int ?_
  | refine op_neg_int ?_)
set_option hygiene false in
local macro_rules | `(tactic| walk_at "gG") => `(tactic| first
  | refine op_add_int ?_
  | refine op_sub_int ?_
  | refine iop_add_int ?_
  | refine iop_sub_int ?_
  | refine op_lt_int ?_
  | refine op_gt_int ?_
  | refine op_le_int ?_
  | refine op_ge_int ?_
  | refine op_eq_int ?_
  | refine op_ne_int ?_
  | refine op_eq_str ?_
  | refine op_ne_str ?_)
set_option hygiene false in
local macro_rules | `(tactic| walk_at "gH") => `(tactic| first
  | refine wpl_cons ?_
  | refine wpl_nil ?_)
set_option hygiene false in
local macro_rules | `(tactic| walk_at "gI") => `(tactic| first
  | refine wps_next ?_
  | refine wps_ret ?_
  | refine wpg_cons ?_
  | refine wpg_nil ?_
  | refine noneOf ?_
  | refine intOf ?_
  | refine fewOf ?_
  | refine turn_next ?_
  | refine turn_cont ?_
  | refine turn_brk ?_
  | refine turn_ret ?_
  | refine wps_brk ?_
  | refine wps_cont ?_
  | refine wpp_none ?_
  | refine wpp_some ?_
  | refine wp_allAnd_cons ?_
  | refine wp_allAnd_nil ?_
  | refine wp_allOr_cons ?_
  | refine wp_allOr_nil ?_
  | refine wpt_nil ?_
  | refine wpt_one ?_)
set_option hygiene false in
local macro_rules | `(tactic| walk_at "gJ") => `(tactic| first
  | refine load_local FE (by walk_at "mem") (by walk_at "at") ?_
  | refine load_cell FE (by walk_at "mem") (by walk_at "mem") ?_)
set_option hygiene false in
local macro_rules | `(tactic| walk_at "s") => `(tactic| with_reducible first
  | refine wps_cons ?_
  | refine wps_nil ?_
  | ((show WP _ _ _ (exec _ _) _ _); walk_at "gB")
  | ((show WP _ _ _ (eval (Expr.Name _ _) _) _ _); walk_at "gC")
  | ((show WP _ _ _ (eval _ _) _ _); walk_at "gD")
  | ((show WP _ _ _ (loadName _ _) _ _); walk_at "gJ")
  | ((show WP _ _ _ (spliced _) _ _); walk_at "gH")
  | ((show WP _ _ _ (isTrue _ _ _) _ _); walk_at "gE")
  | ((show Op1 _ _ _ _ _ _ _); walk_at "gF")
  | ((show Op2 _ _ _ _ _ _ _ _); walk_at "gG")
  | walk_at "gI")
set_option hygiene false in
local macro_rules | `(tactic| walk_at "cp") => `(tactic| (refine ⟨fun x hx => ?_, fun x hx => ?_, fun x hx => ?_, fun x hx => ?_, fun x hx => ?_, by decide +kernel, by decide +kernel, by decide +kernel⟩ <;> revert x <;> decide +kernel))
noncomputable section
noncomputable abbrev PW : Program := pw_sw0039_02
noncomputable def dfn (qual : Str) (clos : List (Str × Addr)) : Stmt → FnA
  | .FunctionDef _ ps b _ _ _ sc .. => ⟨qual, ps, .stmts b, sc, clos⟩
  | _ => ⟨qual, default, .stmts [], default, clos⟩
noncomputable def cbody : Stmt → List Stmt
  | .ClassDef _ _ _ b .. => b
  | .FunctionDef _ _ b .. => b
  | _ => []
noncomputable def nth (b : List Stmt) (n : Nat) : Stmt := b.getD n (.Pass ⟨0, 0, 0, 0⟩)
noncomputable def lfn (qual : Str) (clos : List (Str × Addr)) : Stmt → FnA
  | .Assign _ (.Lambda ps b sc _) _ => ⟨qual, ps, .expr b, sc, clos⟩
  | _ => ⟨qual, default, .stmts [], default, clos⟩

noncomputable def F_Int2AP : FnA := dfn "Int2AP" [] (nth PW.main.body 11)
theorem ok_Int2AP : FnOk F_Int2AP ["num"] ["num", "val", "AP", "mod"] ["int", "abs", "divmod"] [] [] :=
  ⟨binds_of rfl rfl (by decide +kernel), fun x hx => (by decide +kernel : ∀ x ∈ (["num", "val", "AP", "mod"] : List Str), (F_Int2AP).scope.names.lookup x = some .local ∧ dbg x) x hx, fun x hx => (by decide +kernel : ∀ x ∈ (["int", "abs", "divmod"] : List Str), (F_Int2AP).scope.names.lookup x = some .globalImplicit ∧ dbg x) x hx, fun x hx => (by decide +kernel : ∀ x ∈ ([] : List Str), (F_Int2AP).scope.names.lookup x = some .cell ∧ dbg x) x hx, fun x hx => (by decide +kernel : ∀ x ∈ ([] : List Str), (F_Int2AP).scope.names.lookup x = some .free ∧ dbg x) x hx, by decide +kernel, by decide +kernel, by decide +kernel, by decide +kernel, fun x hx => (by decide +kernel : ∀ x ∈ (F_Int2AP).scope.names, x.2 = .cell → x.1 ∈ ([] : List Str)) x hx, by decide +kernel, fun L => rfl, rfl, rfl, rfl⟩
noncomputable def F_div2n1n : FnA := dfn "_div2n1n" [] (nth PW.main.body 4)
theorem ok_div2n1n : FnOk F_div2n1n ["a", "b", "n"] ["a", "b", "n", "pad", "half_n", "mask", "b1", "b2", "q1", "r", "q2"] ["_DIV_LIMIT", "divmod"] [] [] :=
  ⟨binds_of rfl rfl (by decide +kernel), fun x hx => (by decide +kernel : ∀ x ∈ (["a", "b", "n", "pad", "half_n", "mask", "b1", "b2", "q1", "r", "q2"] : List Str), (F_div2n1n).scope.names.lookup x = some .local ∧ dbg x) x hx, fun x hx => (by decide +kernel : ∀ x ∈ (["_DIV_LIMIT", "divmod"] : List Str), (F_div2n1n).scope.names.lookup x = some .globalImplicit ∧ dbg x) x hx, fun x hx => (by decide +kernel : ∀ x ∈ ([] : List Str), (F_div2n1n).scope.names.lookup x = some .cell ∧ dbg x) x hx, fun x hx => (by decide +kernel : ∀ x ∈ ([] : List Str), (F_div2n1n).scope.names.lookup x = some .free ∧ dbg x) x hx, by decide +kernel, by decide +kernel, by decide +kernel, by decide +kernel, fun x hx => (by decide +kernel : ∀ x ∈ (F_div2n1n).scope.names, x.2 = .cell → x.1 ∈ ([] : List Str)) x hx, by decide +kernel, fun L => rfl, rfl, rfl, rfl⟩
noncomputable def F_int2digits : FnA := dfn "_int2digits" [] (nth PW.main.body 6)
theorem ok_int2digits : FnOk F_int2digits ["a", "n"] ["a"] ["len"] ["inner", "a_digits", "n"] [] :=
  ⟨binds_of rfl rfl (by decide +kernel), fun x hx => (by decide +kernel : ∀ x ∈ (["a"] : List Str), (F_int2digits).scope.names.lookup x = some .local ∧ dbg x) x hx, fun x hx => (by decide +kernel : ∀ x ∈ (["len"] : List Str), (F_int2digits).scope.names.lookup x = some .globalImplicit ∧ dbg x) x hx, fun x hx => (by decide +kernel : ∀ x ∈ (["inner", "a_digits", "n"] : List Str), (F_int2digits).scope.names.lookup x = some .cell ∧ dbg x) x hx, fun x hx => (by decide +kernel : ∀ x ∈ ([] : List Str), (F_int2digits).scope.names.lookup x = some .free ∧ dbg x) x hx, by decide +kernel, by decide +kernel, by decide +kernel, by decide +kernel, fun x hx => (by decide +kernel : ∀ x ∈ (F_int2digits).scope.names, x.2 = .cell → x.1 ∈ (["inner", "a_digits", "n"] : List Str)) x hx, by decide +kernel, fun L => rfl, rfl, rfl, rfl⟩
noncomputable def F_i2dInner (clos : List (Str × Addr)) : FnA := dfn "_int2digits.<locals>.inner" clos (nth (cbody (nth PW.main.body 6)) 1)
theorem ok_i2dInner (clos : List (Str × Addr)) : FnOk (F_i2dInner clos) ["x", "L", "R"] ["x", "L", "R", "mid", "shift", "upper", "lower"] [] [] ["n", "inner", "a_digits"] :=
  ⟨binds_of rfl rfl (by decide +kernel), fun x hx => (by decide +kernel : ∀ x ∈ (["x", "L", "R", "mid", "shift", "upper", "lower"] : List Str), (F_i2dInner []).scope.names.lookup x = some .local ∧ dbg x) x hx, fun x hx => (by decide +kernel : ∀ x ∈ ([] : List Str), (F_i2dInner []).scope.names.lookup x = some .globalImplicit ∧ dbg x) x hx, fun x hx => (by decide +kernel : ∀ x ∈ ([] : List Str), (F_i2dInner []).scope.names.lookup x = some .cell ∧ dbg x) x hx, fun x hx => (by decide +kernel : ∀ x ∈ (["n", "inner", "a_digits"] : List Str), (F_i2dInner []).scope.names.lookup x = some .free ∧ dbg x) x hx, by decide +kernel, by decide +kernel, by decide +kernel, by decide +kernel, fun x hx => (by decide +kernel : ∀ x ∈ (F_i2dInner []).scope.names, x.2 = .cell → x.1 ∈ ([] : List Str)) x hx, by decide +kernel, fun L => rfl, rfl, rfl, rfl⟩
noncomputable def F_digits2int : FnA := dfn "_digits2int" [] (nth PW.main.body 7)
theorem ok_digits2int : FnOk F_digits2int ["digits", "n"] [] ["len"] ["inner", "n", "digits"] [] :=
  ⟨binds_of rfl rfl (by decide +kernel), fun x hx => (by decide +kernel : ∀ x ∈ ([] : List Str), (F_digits2int).scope.names.lookup x = some .local ∧ dbg x) x hx, fun x hx => (by decide +kernel : ∀ x ∈ (["len"] : List Str), (F_digits2int).scope.names.lookup x = some .globalImplicit ∧ dbg x) x hx, fun x hx => (by decide +kernel : ∀ x ∈ (["inner", "n", "digits"] : List Str), (F_digits2int).scope.names.lookup x = some .cell ∧ dbg x) x hx, fun x hx => (by decide +kernel : ∀ x ∈ ([] : List Str), (F_digits2int).scope.names.lookup x = some .free ∧ dbg x) x hx, by decide +kernel, by decide +kernel, by decide +kernel, by decide +kernel, fun x hx => (by decide +kernel : ∀ x ∈ (F_digits2int).scope.names, x.2 = .cell → x.1 ∈ (["inner", "n", "digits"] : List Str)) x hx, by decide +kernel, fun L => rfl, rfl, rfl, rfl⟩
noncomputable def F_d2iInner (clos : List (Str × Addr)) : FnA := dfn "_digits2int.<locals>.inner" clos (nth (cbody (nth PW.main.body 7)) 0)
theorem ok_d2iInner (clos : List (Str × Addr)) : FnOk (F_d2iInner clos) ["L", "R"] ["L", "R", "mid", "shift"] [] [] ["n", "inner", "digits"] :=
  ⟨binds_of rfl rfl (by decide +kernel), fun x hx => (by decide +kernel : ∀ x ∈ (["L", "R", "mid", "shift"] : List Str), (F_d2iInner []).scope.names.lookup x = some .local ∧ dbg x) x hx, fun x hx => (by decide +kernel : ∀ x ∈ ([] : List Str), (F_d2iInner []).scope.names.lookup x = some .globalImplicit ∧ dbg x) x hx, fun x hx => (by decide +kernel : ∀ x ∈ ([] : List Str), (F_d2iInner []).scope.names.lookup x = some .cell ∧ dbg x) x hx, fun x hx => (by decide +kernel : ∀ x ∈ (["n", "inner", "digits"] : List Str), (F_d2iInner []).scope.names.lookup x = some .free ∧ dbg x) x hx, by decide +kernel, by decide +kernel, by decide +kernel, by decide +kernel, fun x hx => (by decide +kernel : ∀ x ∈ (F_d2iInner []).scope.names, x.2 = .cell → x.1 ∈ ([] : List Str)) x hx, by decide +kernel, fun L => rfl, rfl, rfl, rfl⟩
noncomputable def F_divmod_pos : FnA := dfn "_divmod_pos" [] (nth PW.main.body 8)
theorem ok_divmod_pos : FnOk F_divmod_pos ["a", "b"] ["a", "b", "n", "a_digits", "r", "q_digits", "a_digit", "q_digit", "q"] ["_int2digits", "reversed", "_div2n1n", "_digits2int"] [] [] :=
  ⟨binds_of rfl rfl (by decide +kernel), fun x hx => (by decide +kernel : ∀ x ∈ (["a", "b", "n", "a_digits", "r", "q_digits", "a_digit", "q_digit", "q"] : List Str), (F_divmod_pos).scope.names.lookup x = some .local ∧ dbg x) x hx, fun x hx => (by decide +kernel : ∀ x ∈ (["_int2digits", "reversed", "_div2n1n", "_digits2int"] : List Str), (F_divmod_pos).scope.names.lookup x = some .globalImplicit ∧ dbg x) x hx, fun x hx => (by decide +kernel : ∀ x ∈ ([] : List Str), (F_divmod_pos).scope.names.lookup x = some .cell ∧ dbg x) x hx, fun x hx => (by decide +kernel : ∀ x ∈ ([] : List Str), (F_divmod_pos).scope.names.lookup x = some .free ∧ dbg x) x hx, by decide +kernel, by decide +kernel, by decide +kernel, by decide +kernel, fun x hx => (by decide +kernel : ∀ x ∈ (F_divmod_pos).scope.names, x.2 = .cell → x.1 ∈ ([] : List Str)) x hx, by decide +kernel, fun L => rfl, rfl, rfl, rfl⟩
noncomputable def F_int_divmod : FnA := dfn "int_divmod" [] (nth PW.main.body 9)
theorem ok_int_divmod : FnOk F_int_divmod ["a", "b"] ["a", "b", "q", "r"] ["int_divmod", "_divmod_pos"] [] [] :=
  ⟨binds_of rfl rfl (by decide +kernel), fun x hx => (by decide +kernel : ∀ x ∈ (["a", "b", "q", "r"] : List Str), (F_int_divmod).scope.names.lookup x = some .local ∧ dbg x) x hx, fun x hx => (by decide +kernel : ∀ x ∈ (["int_divmod", "_divmod_pos"] : List Str), (F_int_divmod).scope.names.lookup x = some .globalImplicit ∧ dbg x) x hx, fun x hx => (by decide +kernel : ∀ x ∈ ([] : List Str), (F_int_divmod).scope.names.lookup x = some .cell ∧ dbg x) x hx, fun x hx => (by decide +kernel : ∀ x ∈ ([] : List Str), (F_int_divmod).scope.names.lookup x = some .free ∧ dbg x) x hx, by decide +kernel, by decide +kernel, by decide +kernel, by decide +kernel, fun x hx => (by decide +kernel : ∀ x ∈ (F_int_divmod).scope.names, x.2 = .cell → x.1 ∈ ([] : List Str)) x hx, by decide +kernel, fun L => rfl, rfl, rfl, rfl⟩
noncomputable def F_init : FnA := dfn "_netrclex.__init__" [] (nth (cbody (nth PW.main.body 1)) 0)
theorem ok_init : FnOk F_init ["self", "fp"] ["self", "fp"] [] [] [] :=
  ⟨binds_of rfl rfl (by decide +kernel), fun x hx => (by decide +kernel : ∀ x ∈ (["self", "fp"] : List Str), (F_init).scope.names.lookup x = some .local ∧ dbg x) x hx, fun x hx => (by decide +kernel : ∀ x ∈ ([] : List Str), (F_init).scope.names.lookup x = some .globalImplicit ∧ dbg x) x hx, fun x hx => (by decide +kernel : ∀ x ∈ ([] : List Str), (F_init).scope.names.lookup x = some .cell ∧ dbg x) x hx, fun x hx => (by decide +kernel : ∀ x ∈ ([] : List Str), (F_init).scope.names.lookup x = some .free ∧ dbg x) x hx, by decide +kernel, by decide +kernel, by decide +kernel, by decide +kernel, fun x hx => (by decide +kernel : ∀ x ∈ (F_init).scope.names, x.2 = .cell → x.1 ∈ ([] : List Str)) x hx, by decide +kernel, fun L => rfl, rfl, rfl, rfl⟩
noncomputable def F_read : FnA := dfn "_netrclex._read_char" [] (nth (cbody (nth PW.main.body 1)) 1)
theorem ok_read : FnOk F_read ["self"] ["self", "ch"] [] [] [] :=
  ⟨binds_of rfl rfl (by decide +kernel), fun x hx => (by decide +kernel : ∀ x ∈ (["self", "ch"] : List Str), (F_read).scope.names.lookup x = some .local ∧ dbg x) x hx, fun x hx => (by decide +kernel : ∀ x ∈ ([] : List Str), (F_read).scope.names.lookup x = some .globalImplicit ∧ dbg x) x hx, fun x hx => (by decide +kernel : ∀ x ∈ ([] : List Str), (F_read).scope.names.lookup x = some .cell ∧ dbg x) x hx, fun x hx => (by decide +kernel : ∀ x ∈ ([] : List Str), (F_read).scope.names.lookup x = some .free ∧ dbg x) x hx, by decide +kernel, by decide +kernel, by decide +kernel, by decide +kernel, fun x hx => (by decide +kernel : ∀ x ∈ (F_read).scope.names, x.2 = .cell → x.1 ∈ ([] : List Str)) x hx, by decide +kernel, fun L => rfl, rfl, rfl, rfl⟩
noncomputable def F_get : FnA := dfn "_netrclex.get_token" [] (nth (cbody (nth PW.main.body 1)) 2)
theorem ok_get : FnOk F_get ["self"] ["self", "token", "fiter", "ch"] ["iter"] [] [] :=
  ⟨binds_of rfl rfl (by decide +kernel), fun x hx => (by decide +kernel : ∀ x ∈ (["self", "token", "fiter", "ch"] : List Str), (F_get).scope.names.lookup x = some .local ∧ dbg x) x hx, fun x hx => (by decide +kernel : ∀ x ∈ (["iter"] : List Str), (F_get).scope.names.lookup x = some .globalImplicit ∧ dbg x) x hx, fun x hx => (by decide +kernel : ∀ x ∈ ([] : List Str), (F_get).scope.names.lookup x = some .cell ∧ dbg x) x hx, fun x hx => (by decide +kernel : ∀ x ∈ ([] : List Str), (F_get).scope.names.lookup x = some .free ∧ dbg x) x hx, by decide +kernel, by decide +kernel, by decide +kernel, by decide +kernel, fun x hx => (by decide +kernel : ∀ x ∈ (F_get).scope.names, x.2 = .cell → x.1 ∈ ([] : List Str)) x hx, by decide +kernel, fun L => rfl, rfl, rfl, rfl⟩
noncomputable def F_push : FnA := dfn "_netrclex.push_token" [] (nth (cbody (nth PW.main.body 1)) 3)
theorem ok_push : FnOk F_push ["self", "token"] ["self", "token"] [] [] [] :=
  ⟨binds_of rfl rfl (by decide +kernel), fun x hx => (by decide +kernel : ∀ x ∈ (["self", "token"] : List Str), (F_push).scope.names.lookup x = some .local ∧ dbg x) x hx, fun x hx => (by decide +kernel : ∀ x ∈ ([] : List Str), (F_push).scope.names.lookup x = some .globalImplicit ∧ dbg x) x hx, fun x hx => (by decide +kernel : ∀ x ∈ ([] : List Str), (F_push).scope.names.lookup x = some .cell ∧ dbg x) x hx, fun x hx => (by decide +kernel : ∀ x ∈ ([] : List Str), (F_push).scope.names.lookup x = some .free ∧ dbg x) x hx, by decide +kernel, by decide +kernel, by decide +kernel, by decide +kernel, fun x hx => (by decide +kernel : ∀ x ∈ (F_push).scope.names, x.2 = .cell → x.1 ∈ ([] : List Str)) x hx, by decide +kernel, fun L => rfl, rfl, rfl, rfl⟩
noncomputable def F_reader : FnA := dfn "_law_reader" [] (nth PW.main.body 18)
theorem ok_reader : FnOk F_reader ["left"] ["fp"] ["_netrclex"] ["left"] [] :=
  ⟨binds_of rfl rfl (by decide +kernel), fun x hx => (by decide +kernel : ∀ x ∈ (["fp"] : List Str), (F_reader).scope.names.lookup x = some .local ∧ dbg x) x hx, fun x hx => (by decide +kernel : ∀ x ∈ (["_netrclex"] : List Str), (F_reader).scope.names.lookup x = some .globalImplicit ∧ dbg x) x hx, fun x hx => (by decide +kernel : ∀ x ∈ (["left"] : List Str), (F_reader).scope.names.lookup x = some .cell ∧ dbg x) x hx, fun x hx => (by decide +kernel : ∀ x ∈ ([] : List Str), (F_reader).scope.names.lookup x = some .free ∧ dbg x) x hx, by decide +kernel, by decide +kernel, by decide +kernel, by decide +kernel, fun x hx => (by decide +kernel : ∀ x ∈ (F_reader).scope.names, x.2 = .cell → x.1 ∈ (["left"] : List Str)) x hx, by decide +kernel, fun L => rfl, rfl, rfl, rfl⟩
noncomputable def F_lam (clos : List (Str × Addr)) : FnA := lfn "_law_reader.<locals>.<lambda>" clos (nth (cbody (nth PW.main.body 18)) 1)
theorem ok_lam (clos : List (Str × Addr)) : FnOk (F_lam clos) ["count"] ["count"] [] [] ["left"] :=
  ⟨binds_of rfl rfl (by decide +kernel), fun x hx => (by decide +kernel : ∀ x ∈ (["count"] : List Str), (F_lam []).scope.names.lookup x = some .local ∧ dbg x) x hx, fun x hx => (by decide +kernel : ∀ x ∈ ([] : List Str), (F_lam []).scope.names.lookup x = some .globalImplicit ∧ dbg x) x hx, fun x hx => (by decide +kernel : ∀ x ∈ ([] : List Str), (F_lam []).scope.names.lookup x = some .cell ∧ dbg x) x hx, fun x hx => (by decide +kernel : ∀ x ∈ (["left"] : List Str), (F_lam []).scope.names.lookup x = some .free ∧ dbg x) x hx, by decide +kernel, by decide +kernel, by decide +kernel, by decide +kernel, fun x hx => (by decide +kernel : ∀ x ∈ (F_lam []).scope.names, x.2 = .cell → x.1 ∈ ([] : List Str)) x hx, by decide +kernel, fun L => rfl, rfl, rfl, rfl⟩
noncomputable def F_word : FnA := dfn "_law_word" [] (nth PW.main.body 13)
theorem ok_word : FnOk F_word ["number", "letters"] ["number", "letters"] [] [] [] :=
  ⟨binds_of rfl rfl (by decide +kernel), fun x hx => (by decide +kernel : ∀ x ∈ (["number", "letters"] : List Str), (F_word).scope.names.lookup x = some .local ∧ dbg x) x hx, fun x hx => (by decide +kernel : ∀ x ∈ ([] : List Str), (F_word).scope.names.lookup x = some .globalImplicit ∧ dbg x) x hx, fun x hx => (by decide +kernel : ∀ x ∈ ([] : List Str), (F_word).scope.names.lookup x = some .cell ∧ dbg x) x hx, fun x hx => (by decide +kernel : ∀ x ∈ ([] : List Str), (F_word).scope.names.lookup x = some .free ∧ dbg x) x hx, by decide +kernel, by decide +kernel, by decide +kernel, by decide +kernel, fun x hx => (by decide +kernel : ∀ x ∈ (F_word).scope.names, x.2 = .cell → x.1 ∈ ([] : List Str)) x hx, by decide +kernel, fun L => rfl, rfl, rfl, rfl⟩
noncomputable def F_own : FnA := dfn "_law_own" [] (nth PW.main.body 14)
theorem ok_own : FnOk F_own ["number"] ["places"] ["range", "abs", "_law_word"] ["number"] [] :=
  ⟨binds_of rfl rfl (by decide +kernel), fun x hx => (by decide +kernel : ∀ x ∈ (["places"] : List Str), (F_own).scope.names.lookup x = some .local ∧ dbg x) x hx, fun x hx => (by decide +kernel : ∀ x ∈ (["range", "abs", "_law_word"] : List Str), (F_own).scope.names.lookup x = some .globalImplicit ∧ dbg x) x hx, fun x hx => (by decide +kernel : ∀ x ∈ (["number"] : List Str), (F_own).scope.names.lookup x = some .cell ∧ dbg x) x hx, fun x hx => (by decide +kernel : ∀ x ∈ ([] : List Str), (F_own).scope.names.lookup x = some .free ∧ dbg x) x hx, by decide +kernel, by decide +kernel, by decide +kernel, by decide +kernel, fun x hx => (by decide +kernel : ∀ x ∈ (F_own).scope.names, x.2 = .cell → x.1 ∈ (["number"] : List Str)) x hx, by decide +kernel, fun L => rfl, rfl, rfl, rfl⟩
noncomputable def F_number : FnA := dfn "_law_number" [] (nth PW.main.body 15)
theorem ok_number : FnOk F_number ["word"] ["word", "size"] ["_digits2int"] [] [] :=
  ⟨binds_of rfl rfl (by decide +kernel), fun x hx => (by decide +kernel : ∀ x ∈ (["word", "size"] : List Str), (F_number).scope.names.lookup x = some .local ∧ dbg x) x hx, fun x hx => (by decide +kernel : ∀ x ∈ (["_digits2int"] : List Str), (F_number).scope.names.lookup x = some .globalImplicit ∧ dbg x) x hx, fun x hx => (by decide +kernel : ∀ x ∈ ([] : List Str), (F_number).scope.names.lookup x = some .cell ∧ dbg x) x hx, fun x hx => (by decide +kernel : ∀ x ∈ ([] : List Str), (F_number).scope.names.lookup x = some .free ∧ dbg x) x hx, by decide +kernel, by decide +kernel, by decide +kernel, by decide +kernel, fun x hx => (by decide +kernel : ∀ x ∈ (F_number).scope.names, x.2 = .cell → x.1 ∈ ([] : List Str)) x hx, by decide +kernel, fun L => rfl, rfl, rfl, rfl⟩
noncomputable def F_blocks : FnA := dfn "_law_blocks" [] (nth PW.main.body 16)
theorem ok_blocks : FnOk F_blocks ["number"] ["cells", "cell"] ["range", "min", "len"] ["drawn", "sizes", "number"] [] :=
  ⟨binds_of rfl rfl (by decide +kernel), fun x hx => (by decide +kernel : ∀ x ∈ (["cells", "cell"] : List Str), (F_blocks).scope.names.lookup x = some .local ∧ dbg x) x hx, fun x hx => (by decide +kernel : ∀ x ∈ (["range", "min", "len"] : List Str), (F_blocks).scope.names.lookup x = some .globalImplicit ∧ dbg x) x hx, fun x hx => (by decide +kernel : ∀ x ∈ (["drawn", "sizes", "number"] : List Str), (F_blocks).scope.names.lookup x = some .cell ∧ dbg x) x hx, fun x hx => (by decide +kernel : ∀ x ∈ ([] : List Str), (F_blocks).scope.names.lookup x = some .free ∧ dbg x) x hx, by decide +kernel, by decide +kernel, by decide +kernel, by decide +kernel, fun x hx => (by decide +kernel : ∀ x ∈ (F_blocks).scope.names, x.2 = .cell → x.1 ∈ (["drawn", "sizes", "number"] : List Str)) x hx, by decide +kernel, fun L => rfl, rfl, rfl, rfl⟩
noncomputable def F_text : FnA := dfn "_law_text" [] (nth PW.main.body 17)
theorem ok_text : FnOk F_text ["words", "cells"] ["words", "cells", "text", "word", "cell", "more", "body"] ["zip"] ["style"] [] :=
  ⟨binds_of rfl rfl (by decide +kernel), fun x hx => (by decide +kernel : ∀ x ∈ (["words", "cells", "text", "word", "cell", "more", "body"] : List Str), (F_text).scope.names.lookup x = some .local ∧ dbg x) x hx, fun x hx => (by decide +kernel : ∀ x ∈ (["zip"] : List Str), (F_text).scope.names.lookup x = some .globalImplicit ∧ dbg x) x hx, fun x hx => (by decide +kernel : ∀ x ∈ (["style"] : List Str), (F_text).scope.names.lookup x = some .cell ∧ dbg x) x hx, fun x hx => (by decide +kernel : ∀ x ∈ ([] : List Str), (F_text).scope.names.lookup x = some .free ∧ dbg x) x hx, by decide +kernel, by decide +kernel, by decide +kernel, by decide +kernel, fun x hx => (by decide +kernel : ∀ x ∈ (F_text).scope.names, x.2 = .cell → x.1 ∈ (["style"] : List Str)) x hx, by decide +kernel, fun L => rfl, rfl, rfl, rfl⟩
noncomputable def F_round : FnA := dfn "_law_round" [] (nth PW.main.body 19)
theorem ok_round : FnOk F_round ["line", "struck"] ["line", "struck", "total", "held", "kept", "turn", "word"] ["range", "len", "_law_number", "_law_word", "Int2AP"] [] [] :=
  ⟨binds_of rfl rfl (by decide +kernel), fun x hx => (by decide +kernel : ∀ x ∈ (["line", "struck", "total", "held", "kept", "turn", "word"] : List Str), (F_round).scope.names.lookup x = some .local ∧ dbg x) x hx, fun x hx => (by decide +kernel : ∀ x ∈ (["range", "len", "_law_number", "_law_word", "Int2AP"] : List Str), (F_round).scope.names.lookup x = some .globalImplicit ∧ dbg x) x hx, fun x hx => (by decide +kernel : ∀ x ∈ ([] : List Str), (F_round).scope.names.lookup x = some .cell ∧ dbg x) x hx, fun x hx => (by decide +kernel : ∀ x ∈ ([] : List Str), (F_round).scope.names.lookup x = some .free ∧ dbg x) x hx, by decide +kernel, by decide +kernel, by decide +kernel, by decide +kernel, fun x hx => (by decide +kernel : ∀ x ∈ (F_round).scope.names, x.2 = .cell → x.1 ∈ ([] : List Str)) x hx, by decide +kernel, fun L => rfl, rfl, rfl, rfl⟩
noncomputable def F_last : FnA := dfn "_law_last" [] (nth PW.main.body 20)
theorem ok_last : FnOk F_last ["rows", "j"] ["rows", "total", "part", "u"] ["range", "len", "sum", "enumerate"] ["size", "t", "j"] [] :=
  ⟨binds_of rfl rfl (by decide +kernel), fun x hx => (by decide +kernel : ∀ x ∈ (["rows", "total", "part", "u"] : List Str), (F_last).scope.names.lookup x = some .local ∧ dbg x) x hx, fun x hx => (by decide +kernel : ∀ x ∈ (["range", "len", "sum", "enumerate"] : List Str), (F_last).scope.names.lookup x = some .globalImplicit ∧ dbg x) x hx, fun x hx => (by decide +kernel : ∀ x ∈ (["size", "t", "j"] : List Str), (F_last).scope.names.lookup x = some .cell ∧ dbg x) x hx, fun x hx => (by decide +kernel : ∀ x ∈ ([] : List Str), (F_last).scope.names.lookup x = some .free ∧ dbg x) x hx, by decide +kernel, by decide +kernel, by decide +kernel, by decide +kernel, fun x hx => (by decide +kernel : ∀ x ∈ (F_last).scope.names, x.2 = .cell → x.1 ∈ (["size", "t", "j"] : List Str)) x hx, by decide +kernel, fun L => rfl, rfl, rfl, rfl⟩
noncomputable def F_ahead : FnA := dfn "_law_ahead" [] (nth PW.main.body 21)
theorem ok_ahead : FnOk F_ahead ["told", "row", "turned"] ["told", "row", "turned", "number", "i", "one", "figures", "rest"] ["_digits2int", "enumerate", "len", "int_divmod"] [] [] :=
  ⟨binds_of rfl rfl (by decide +kernel), fun x hx => (by decide +kernel : ∀ x ∈ (["told", "row", "turned", "number", "i", "one", "figures", "rest"] : List Str), (F_ahead).scope.names.lookup x = some .local ∧ dbg x) x hx, fun x hx => (by decide +kernel : ∀ x ∈ (["_digits2int", "enumerate", "len", "int_divmod"] : List Str), (F_ahead).scope.names.lookup x = some .globalImplicit ∧ dbg x) x hx, fun x hx => (by decide +kernel : ∀ x ∈ ([] : List Str), (F_ahead).scope.names.lookup x = some .cell ∧ dbg x) x hx, fun x hx => (by decide +kernel : ∀ x ∈ ([] : List Str), (F_ahead).scope.names.lookup x = some .free ∧ dbg x) x hx, by decide +kernel, by decide +kernel, by decide +kernel, by decide +kernel, fun x hx => (by decide +kernel : ∀ x ∈ (F_ahead).scope.names, x.2 = .cell → x.1 ∈ ([] : List Str)) x hx, by decide +kernel, fun L => rfl, rfl, rfl, rfl⟩
noncomputable def F_law : FnA := dfn "law" [] (nth PW.main.body 22)
theorem ok_law : FnOk F_law ["script"] ["script", "number", "one", "drawn", "block", "j", "marks", "words", "cells", "mark", "text", "left", "word", "heard", "due", "row", "turn", "told", "longer"] ["_law_blocks", "range", "len", "zip", "_law_text", "list", "_law_reader", "_law_round", "enumerate", "_law_ahead"] ["struck", "line", "rows"] [] :=
  ⟨binds_of rfl rfl (by decide +kernel), fun x hx => (by decide +kernel : ∀ x ∈ (["script", "number", "one", "drawn", "block", "j", "marks", "words", "cells", "mark", "text", "left", "word", "heard", "due", "row", "turn", "told", "longer"] : List Str), (F_law).scope.names.lookup x = some .local ∧ dbg x) x hx, fun x hx => (by decide +kernel : ∀ x ∈ (["_law_blocks", "range", "len", "zip", "_law_text", "list", "_law_reader", "_law_round", "enumerate", "_law_ahead"] : List Str), (F_law).scope.names.lookup x = some .globalImplicit ∧ dbg x) x hx, fun x hx => (by decide +kernel : ∀ x ∈ (["struck", "line", "rows"] : List Str), (F_law).scope.names.lookup x = some .cell ∧ dbg x) x hx, fun x hx => (by decide +kernel : ∀ x ∈ ([] : List Str), (F_law).scope.names.lookup x = some .free ∧ dbg x) x hx, by decide +kernel, by decide +kernel, by decide +kernel, by decide +kernel, fun x hx => (by decide +kernel : ∀ x ∈ (F_law).scope.names, x.2 = .cell → x.1 ∈ (["struck", "line", "rows"] : List Str)) x hx, by decide +kernel, fun L => rfl, rfl, rfl, rfl⟩

structure Ad where
  (ap div2 i2d d2i dmp idm cls fInit fRead fGet fPush reader word own number blocks text round last ahead : Addr)
  (pI2d pD2i pReader : Addr)
noncomputable abbrev GL3 (a : Ad) : List (Str × V) := [("int", .ty "int"), ("abs", .bi "abs"), ("divmod", .bi "divmod"), ("len", .bi "len"), ("reversed", .ty "reversed"), ("range", .ty "range"), ("zip", .ty "zip"), ("enumerate", .ty "enumerate"),
  ("list", .ty "list"), ("chr", .bi "chr"), ("ord", .bi "ord"), ("iter", .bi "iter"), ("sum", .bi "sum"), ("min", .bi "min"), ("_DIV_LIMIT", .int 4000), ("Int2AP", .ref a.ap), ("_div2n1n", .ref a.div2), ("_int2digits", .ref a.i2d), ("_digits2int", .ref a.d2i),
  ("_divmod_pos", .ref a.dmp), ("int_divmod", .ref a.idm), ("_netrclex", .ref a.cls), ("_law_reader", .ref a.reader), ("_law_word", .ref a.word), ("_law_own", .ref a.own), ("_law_number", .ref a.number), ("_law_blocks", .ref a.blocks), ("_law_text", .ref a.text),
  ("_law_round", .ref a.round), ("_law_last", .ref a.last), ("_law_ahead", .ref a.ahead)]
structure Cls3 (K : Frag) (a : Ad) : Prop where
  ok : ClsOk K a.cls
  init : findIn K (.ref a.cls) "__init__" = some (some (.ref a.fInit))
  initT : typeIn K (.ref a.fInit) = some (.type "function")
  read : findIn K (.ref a.cls) "_read_char" = some (some (.ref a.fRead))
  readT : isFn K (.ref a.fRead) = true
  readG : specialIn K (.ref a.fRead) "__get__" = some (some (.builtin "function.__get__"))
  readS : takesIn K (.ref a.fRead) = some false
  get : findIn K (.ref a.cls) "get_token" = some (some (.ref a.fGet))
  getT : isFn K (.ref a.fGet) = true
  push : findIn K (.ref a.cls) "push_token" = some (some (.ref a.fPush))
  pushT : isFn K (.ref a.fPush) = true
  at1 : findIn K (.ref a.cls) "lineno" = some none ∧ takerIn K a.cls "lineno" = some none
  at2 : findIn K (.ref a.cls) "instream" = some none ∧ takerIn K a.cls "instream" = some none
  at3 : findIn K (.ref a.cls) "whitespace" = some none ∧ takerIn K a.cls "whitespace" = some none
  at4 : findIn K (.ref a.cls) "pushback" = some none ∧ takerIn K a.cls "pushback" = some none
structure W3 (C : Cfg) (a : Ad) : Prop where
  G : C.Ok (GL3 a)
  cls : Cls3 C.K a
  ap : ∃ cd, FnAt C.B a.ap F_Int2AP cd
  div2 : ∃ cd, FnAt C.B a.div2 F_div2n1n cd
  i2d : ∃ c, FnAt C.B a.i2d F_int2digits (.ref c) ∧ CodeHd C.B c a.pI2d
  d2i : ∃ c, FnAt C.B a.d2i F_digits2int (.ref c) ∧ CodeHd C.B c a.pD2i
  dmp : ∃ cd, FnAt C.B a.dmp F_divmod_pos cd
  idm : ∃ cd, FnAt C.B a.idm F_int_divmod cd
  fInit : ∃ cd, FnAt C.B a.fInit F_init cd
  fRead : ∃ cd, FnAt C.B a.fRead F_read cd
  fGet : ∃ cd, FnAt C.B a.fGet F_get cd
  fPush : ∃ cd, FnAt C.B a.fPush F_push cd
  reader : ∃ c, FnAt C.B a.reader F_reader (.ref c) ∧ CodeHd C.B c a.pReader
  word : ∃ cd, FnAt C.B a.word F_word cd
  own : ∃ cd, FnAt C.B a.own F_own cd
  number : ∃ cd, FnAt C.B a.number F_number cd
  blocks : ∃ cd, FnAt C.B a.blocks F_blocks cd
  text : ∃ cd, FnAt C.B a.text F_text cd
  round : ∃ cd, FnAt C.B a.round F_round cd
  last : ∃ cd, FnAt C.B a.last F_last cd
  ahead : ∃ cd, FnAt C.B a.ahead F_ahead cd
end
noncomputable section
noncomputable def apL (n : Nat) : List UInt8 := if h : n = 0 then [] else apL (n / 16) ++ [UInt8.ofNat (65 + n % 16)]
decreasing_by lia
theorem apL_zero : apL 0 = [] := by rw [apL]; rfl
theorem apL_pos {n : Nat} (h : n ≠ 0) : apL n = apL (n / 16) ++ [UInt8.ofNat (65 + n % 16)] := by rw [apL, dif_neg h]
theorem ap_pick : ∀ m : Fin 16, KBy.picked [65, 66, 67, 68, 69, 70, 71, 72, 73, 74, 75, 76, 77, 78, 79, 80].toArray (some (m.val : Int)) (some ((m.val : Int) + 1)) = #[UInt8.ofNat (65 + m.val)] := by decide +kernel

section
variable {C : Cfg} {a : Ad} {A : Around} {H : AH} {Q : V → AH → Prop}
inductive ApO (n : Int) (L : Addr) (H : AH) (i : Nat) (H₁ : AH) : Prop
  | mk (k : Nat) (b : Array UInt8) (md : Option V) (h1 : k < 16 ^ (1000 - i)) (h2 : apL n.natAbs = apL k ++ b.toList) (h3 : b.size ≤ i) (h4 : H₁ = (L, AO.ns ["num", "val", "AP", "mod"] [some (.int (k : Nat)), some (.bytes b), some (.bytes [65, 66, 67, 68, 69, 70, 71, 72, 73, 74, 75, 76, 77, 78, 79, 80].toArray), md]) :: H) : ApO n L H i H₁
theorem sp_Int2AP {n : Int} (W : W3 C a) (hr : Room A 1) (hn : n.natAbs < 16 ^ 1000) (q : Q (.bytes (apL n.natAbs).toArray) H) :
    WPC C A (.ref a.ap) [.int n] Q H := by
  have G := W.G
  obtain ⟨cd, hF⟩ := W.ap
  refine call_ok ok_Int2AP G (fnAt_of_base hF) hr rfl rfl (by walk_at "init") rfl rfl fun L cd A' env hr' hD FE he => ?_
  have hA := hr'.hd
  repeat walk_at "s"
  refine c_abs ?_
  repeat walk_at "s"
  refine c_int ?_
  repeat walk_at "s"
  refine wp1_While (ApO n L H) 1000
    ⟨n.natAbs, #[], none, hn, by simp, Nat.le_refl _, rfl⟩ ?_
  rintro i H₁ hi ⟨k, b, md, hk, hb, hz, rfl⟩
  repeat walk_at "s"
  refine ⟨fun hne => ?_, fun he => ?_⟩
  · have hk0 : k ≠ 0 := by simpa using hne
    have hi' : i < 1000 := Nat.lt_of_not_le fun h => by
      have : 1000 - i = 0 := by lia
      rw [this] at hk; lia
    refine ⟨hi', ?_⟩
    repeat walk_at "s"
    refine wp1_Assign ?_
    repeat walk_at "s"
    refine c_divmod (by decide) (PyProof.noPylong_small (by decide)) ?_
    refine asg_Tuple hA (wpas_cons ?_)
    repeat walk_at "s"
    refine wpas_cons ?_
    repeat walk_at "s"
    refine wpas_nil ?_
    repeat walk_at "s"
    refine gs_bytes (by decide) ?_
    repeat walk_at "s"
    have e1 : (k : Int).fdiv 16 = ((k / 16 : Nat) : Int) := fdiv_nat k 16
    have e2 : (k : Int).fmod 16 = ((k % 16 : Nat) : Int) := fmod_nat k 16
    have e3 := ap_pick ⟨k % 16, Nat.mod_lt _ (by decide)⟩
    simp only [] at e3
    rw [e1, e2, e3]
    refine op_add_bytes (by simp; lia) ?_
    repeat walk_at "s"
    refine ⟨k / 16, _, some (.int ((k % 16 : Nat) : Int)), ?_, ?_, ?_, rfl⟩
    · have : 1000 - i = (1000 - (i + 1)) + 1 := sub_s (by assumption)
      rw [this, Nat.pow_succ] at hk
      lia
    · rw [hb, apL_pos hk0]; simp
    · simp; lia
  · have hk0 : k = 0 := by simpa using he
    subst hk0
    repeat walk_at "s"
    refine ⟨H, .drop (.refl _), ?_⟩
    rw [apL_zero] at hb
    simp at hb
    rw [hb] at q
    exact q

theorem sp_div2 {x y n : Int} (W : W3 C a) (hr : Room A 1) (hb : y ≠ 0) (hx : (Builtin.Int.intBits x : Int) - n ≤ 4000) (hp : Builtin.divisionGoesByPylong x y = false) (q : Q (.tup [.int (x.fdiv y), .int (x.fmod y)]) H) :
    WPC C A (.ref a.div2) [.int x, .int y, .int n] Q H := by
  have G := W.G
  obtain ⟨cd, hF⟩ := W.div2
  refine call_ok ok_div2n1n G (fnAt_of_base hF) hr rfl rfl (by walk_at "init") rfl rfl fun L cd A' env hr' hD FE he => ?_
  repeat walk_at "s"
  refine wpm_bitlen ?_
  repeat walk_at "s"
  refine c_bitlen ?_
  repeat walk_at "s"
  refine ⟨fun _ => ?_, fun h => absurd hx (by simpa using h)⟩
  repeat walk_at "s"
  refine c_divmod hb hp ?_
  exact ⟨H, .drop (.refl _), q⟩
end
end
noncomputable section
noncomputable abbrev natVs (l : List Nat) : List V := l.map fun d => V.int (d : Nat)
section
variable {C : Cfg} {a : Ad} {A : Around} {H : AH} {Q : V → AH → Prop}
theorem sp_i2dInner (W : W3 C a) {n : Nat} {fi cn ci ca ld : Addr} (hn : 1 ≤ n) : ∀ (d : Nat) {A : Around} {Q : V → AH → Prop} {pre post : AH} {vs : List V} {x L R : Nat}, Room A (d + 1) → R - L ≤ 2 ^ d → L < R → R ≤ vs.length → vs.length ≤ 10000 → n * (R - L) ≤ 100000 → x < 2 ^ (n * (R - L)) →
    (fi, AO.fn (F_i2dInner [("n", cn), ("inner", ci), ("a_digits", ca)])) ∈ pre ++ post → (cn, AO.cell (some (.int (n : Nat)))) ∈ pre ++ post → (ci, AO.cell (some (.ref fi))) ∈ pre ++ post → (ca, AO.cell (some (.ref ld))) ∈ pre ++ post →
    Q .none (pre ++ (ld, .list (splice vs L (natVs (digs x n (R - L))))) :: post) →
    WPC C A (.ref fi) [.int x, .int L, .int R] Q (pre ++ (ld, .list vs) :: post) := by
  intro d
  induction d with
  | zero =>
    intro A Q pre post vs x L R hr hd hlt hR hz hnz hx m1 m2 m3 m4 q
    have G := W.G
    have ins : ∀ {p : Addr × AO} {r : Addr × AO}, p ∈ pre ++ post → p ∈ pre ++ r :: post := fun h => by
      rcases List.mem_append.mp h with h | h
      · exact List.mem_append_left _ h
      · exact List.mem_append_right _ (List.mem_cons_of_mem _ h)
    have m1' := ins (r := (ld, .list vs)) m1
    have m2' := ins (r := (ld, .list vs)) m2
    have m3' := ins (r := (ld, .list vs)) m3
    have m4' := ins (r := (ld, .list vs)) m4
    refine call_ok (cl := [("n", cn), ("inner", ci), ("a_digits", ca)]) (ok_i2dInner _) G (fnAt_of_fn m1') hr rfl rfl (by walk_at "init") rfl rfl fun Lo cd A' env hr' hD FE he => ?_
    have hRL : R = L + 1 := by lia
    subst hRL
    repeat walk_at "s"
    refine ⟨fun _ => ?_, fun h => by simp at h⟩
    repeat walk_at "s"
    refine wp1_Assign ?_
    repeat walk_at "s"
    refine asg_Subscript ?_
    repeat walk_at "s"
    refine set_list (.tail .of_split) (by lia) (by lia) (by lia) ?_
    repeat walk_at "s"
    refine ⟨_, .drop (.refl _), ?_⟩
    have e1 : L + 1 - L = 1 := Nat.add_sub_cancel_left ..
    rw [e1] at q hx
    rw [digs_one (by simpa using hx)] at q
    rw [Int.toNat_natCast, splice_one hR]
    exact q
  | succ d ih =>
    intro A Q pre post vs x L R hr hd hlt hR hz hnz hx m1 m2 m3 m4 q
    have G := W.G
    have ins : ∀ {p : Addr × AO} {r : Addr × AO}, p ∈ pre ++ post → p ∈ pre ++ r :: post := fun h => by
      rcases List.mem_append.mp h with h | h
      · exact List.mem_append_left _ h
      · exact List.mem_append_right _ (List.mem_cons_of_mem _ h)
    have m1' := ins (r := (ld, .list vs)) m1
    have m2' := ins (r := (ld, .list vs)) m2
    have m3' := ins (r := (ld, .list vs)) m3
    have m4' := ins (r := (ld, .list vs)) m4
    refine call_ok (cl := [("n", cn), ("inner", ci), ("a_digits", ca)]) (ok_i2dInner _) G (fnAt_of_fn m1') hr rfl rfl (by walk_at "init") rfl rfl fun Lo cd A' env hr' hD FE he => ?_
    by_cases h1 : R = L + 1
    · subst h1
      repeat walk_at "s"
      refine ⟨fun _ => ?_, fun h => by simp at h⟩
      repeat walk_at "s"
      refine wp1_Assign ?_
      repeat walk_at "s"
      refine asg_Subscript ?_
      repeat walk_at "s"
      refine set_list (.tail .of_split) (by lia) (by lia) (by lia) ?_
      repeat walk_at "s"
      refine ⟨_, .drop (.refl _), ?_⟩
      have e1 : L + 1 - L = 1 := Nat.add_sub_cancel_left ..
      rw [e1] at q hx
      rw [digs_one (by simpa using hx)] at q
      rw [Int.toNat_natCast, splice_one hR]
      exact q
    · repeat walk_at "s"
      refine ⟨fun h => absurd (by simp at h; lia) h1, fun _ => ?_⟩
      repeat walk_at "s"
      refine op_rshift_int (by decide) ?_
      have e0 : ((L : Int) + (R : Int)).fdiv (2 ^ (1 : Int).toNat) = (((L + R) / 2 : Nat) : Int) := shr_nat (L + R) 1
      rw [e0]
      generalize hM : (L + R) / 2 = M
      repeat walk_at "s"
      have hML : L < M := (halves hM hlt h1).1
      have hMR : M < R := (halves hM hlt h1).2
      have hsum : n * (R - L) = n * (M - L) + n * (R - M) := by rw [← Nat.mul_add, ← splitL (Nat.le_of_lt hML) (Nat.le_of_lt hMR)]
      have hM20 : M < 2 ^ 20 := Nat.lt_of_lt_of_le (Nat.lt_of_lt_of_le hMR hR) (Nat.le_trans hz (by decide))
      have hn1 : n * (M - L) ≤ 100000 := Nat.le_trans (hsum ▸ Nat.le_add_right _ _) hnz
      have hn2 : n * (R - M) ≤ 100000 := Nat.le_trans (hsum ▸ Nat.le_add_left _ _) hnz
      have hnle : n ≤ 100000 := Nat.le_trans (Nat.le_mul_of_pos_right n (Nat.sub_pos_of_lt hlt)) hnz
      refine op_mul_int (mulOk (k := 20) (l := 20) (abs_diff (Nat.lt_trans hML hM20) hM20) (by rw [Int.natAbs_natCast]; exact Nat.lt_of_le_of_lt hnle (by decide)) (by decide)) ?_
      have e2 : ((M : Int) - (L : Int)) * (n : Int) = ((n * (M - L) : Nat) : Int) := by
        rw [csub (Nat.le_of_lt hML), Nat.mul_comm]; push_cast; rfl
      rw [e2]
      generalize hS : n * (M - L) = S at hsum ⊢
      repeat walk_at "s"
      refine op_rshift_int (Int.natCast_nonneg _) ?_
      rw [shr_nat]
      have hu : x / 2 ^ S < 2 ^ (n * (R - M)) := by
        rw [Nat.div_lt_iff_lt_mul (Nat.two_pow_pos _), ← Nat.pow_add]
        have : n * (R - M) + S = n * (R - L) := by rw [hsum, Nat.add_comm]
        rw [this]; exact hx
      repeat walk_at "s"
      refine op_lshift_int (Int.natCast_nonneg _) ?_ ?_
      · have : Builtin.Int.intBits ((x / 2 ^ S : Nat) : Int) ≤ n * (R - M) := intBits_le (by rw [Int.natAbs_natCast]; exact hu)
        have h2 : (2 : Int) ^ 27 = 134217728 := rfl
        rw [h2]
        exact Int.ofNat_le.mpr (Nat.le_trans (Nat.add_le_add (Nat.le_trans this hn2) (hS ▸ hn1)) (by decide))
      rw [shl_nat]
      refine op_xor_int ?_
      rw [xor_low]
      repeat walk_at "s"
      have q' := q
      have e3 : R - L = (M - L) + (R - M) := splitL (Nat.le_of_lt hML) (Nat.le_of_lt hMR)
      rw [e3, digs_add, hS] at q'
      refine ih (pre := (Lo, AO.ns _ _) :: pre) hr' (halvesD hM (by assumption)).1 hML (Nat.le_trans (Nat.le_of_lt hMR) hR) hz hn1 (by rw [hS]; exact Nat.mod_lt _ (Nat.two_pow_pos _)) (.tail _ m1) (.tail _ m2) (.tail _ m3) (.tail _ m4) ?_
      rw [List.cons_append]
      have n2 := ins (r := (ld, .list (splice vs L (natVs (digs (x % 2 ^ S) n (M - L)))))) m2
      have n3 := ins (r := (ld, .list (splice vs L (natVs (digs (x % 2 ^ S) n (M - L)))))) m3
      have n4 := ins (r := (ld, .list (splice vs L (natVs (digs (x % 2 ^ S) n (M - L)))))) m4
      repeat walk_at "s"
      have hDl : (natVs (digs (x % 2 ^ S) n (M - L))).length = M - L := by simp [digs_length]
      have hDr : (natVs (digs (x / 2 ^ S) n (R - M))).length = R - M := by simp [digs_length]
      have hlen : (splice vs L (natVs (digs (x % 2 ^ S) n (M - L)))).length = vs.length := splice_length (by rw [hDl]; exact addL (Nat.le_of_lt hML) (Nat.le_trans (Nat.le_of_lt hMR) hR))
      refine ih (pre := (Lo, AO.ns _ _) :: pre) hr' (halvesD hM (by assumption)).2 hMR (by rw [hlen]; exact hR) (by rw [hlen]; exact hz) hn2 hu (.tail _ m1) (.tail _ m2) (.tail _ m3) (.tail _ m4) ?_
      rw [List.cons_append]
      repeat walk_at "s"
      refine ⟨_, .drop (.refl _), ?_⟩
      have e4 : M = L + (natVs (digs (x % 2 ^ S) n (M - L))).length := by rw [hDl, Nat.add_sub_cancel' (Nat.le_of_lt hML)]
      have e5 := splice_splice (vs := vs) (i := L) (D := natVs (digs (x % 2 ^ S) n (M - L))) (E := natVs (digs (x / 2 ^ S) n (R - M))) (by rw [hDl, hDr, Nat.add_sub_cancel' (Nat.le_of_lt hML), Nat.add_sub_cancel' (Nat.le_of_lt hMR)]; exact hR)
      rw [← e4] at e5
      rw [e5]
      rw [natVs, List.map_append] at q'
      exact q'
end
end
noncomputable section
section
variable {C : Cfg} {a : Ad} {A : Around} {H : AH} {Q : V → AH → Prop}
theorem sp_int2digits {x n : Nat} (W : W3 C a) (hr : Room A 20) (hn : 1 ≤ n) (hx : x < 2 ^ 8000) (hn' : n ≤ 8000) (hT : (a.pI2d, AO.tab "_int2digits.<locals>.inner") ∈ H)
    (q : ∀ l, Q (.ref l) ((l, .list (natVs (digs x n (ndig x n)))) :: H)) : WPC C A (.ref a.i2d) [.int x, .int n] Q H := by
  have G := W.G
  obtain ⟨c, hF, hC⟩ := W.i2d
  have hk : ndig x n ≤ 8000 := ndig_le hn (Nat.lt_of_lt_of_le hx (Nat.pow_le_pow_right (by decide) (Nat.le_mul_of_pos_left _ hn)))
  refine call_okC ok_int2digits G (fun s R => hF.keeps R.keep) hr rfl rfl rfl (vals := [some (.int x)]) rfl (VOk.get (.some .head (.rest rfl))) fun L cs A' env hcs hr' FE he => ?_
  · obtain ⟨c1, c2, c3, rfl⟩ := cells3 hcs
    refine ⟨_, .other (.other (.param (.tail .head) .nil)), ?_⟩
    have hA := hr'.hd
    simp only [List.cons_append, List.nil_append]
    repeat walk_at "s"
    intro l0
    repeat walk_at "s"
    refine wpm_bitlen ?_
    repeat walk_at "s"
    refine c_bitlen ?_
    repeat walk_at "s"
    have e1 : ((Builtin.Int.intBits (x : Int) : Nat) : Int) + (n : Int) - 1 = ((Builtin.Int.intBits (x : Int) + n - 1 : Nat) : Int) := by lia
    rw [e1]
    refine op_floordiv_int (by lia) (PyProof.noPylong_small (by lia)) ?_
    rw [fdiv_nat, show (Builtin.Int.intBits (x : Int) + n - 1) / n = ndig x n from rfl]
    refine op_mul_list (by walk_at "mem") (by lia) (by lia) ?_
    intro l
    rw [Int.toNat_natCast]
    repeat walk_at "s"
    refine wp1_DefF (F_i2dInner [("n", c3), ("inner", c1), ("a_digits", c2)]) G (by rw [he]; rfl) hC (by rw [he]; rfl) (by walk_at "mem") (closure_of (fs := ["a_digits", "inner", "n"]) (cs := [c2, c1, c3]) FE (by decide +kernel) rfl (by simp)) ?_ (he ▸ qual_in (k := .cell) (by decide +kernel) (by decide) (by decide +kernel))
    intro fi
    repeat walk_at "s"
    refine ⟨fun hx0 => ?_, fun hx0 => ?_⟩
    · have hx1 : x ≠ 0 := by simpa using hx0
      repeat walk_at "s"
      refine c_len_list (by walk_at "mem") (by simp; lia) ?_
      repeat walk_at "s"
      rw [List.length_replicate]
      have h13 : (2 : Nat) ^ 13 = 8192 := rfl
      have hbits : Builtin.Int.intBits (x : Int) ≤ 8000 := intBits_le (by rw [Int.natAbs_natCast]; exact hx)
      have hmul := ndig_mul_le (x := x) (n := n)
      refine sp_i2dInner (fi := fi) (cn := c3) (ci := c1) (ca := c2) (ld := l) W hn 13 (pre := [(fi, _)]) (L := 0) (hr'.mono (by decide)) (by lia) (by have := ndig_pos hn hx1; lia) (by simp) (by simp; lia) (by rw [Nat.sub_zero]; lia) (by simpa using lt_ndig hn) (by simp) (by simp) (by simp) (by simp) ?_
      simp only [List.cons_append, List.nil_append, Nat.sub_zero]
      repeat walk_at "s"
      refine ⟨(l, _) :: H, .pick (.tail .head) (by walk_at "sub"), ?_⟩
      rw [splice_all (by simp [digs_length])]
      exact q l
    · have hx1 : x = 0 := by simpa using hx0
      subst hx1
      repeat walk_at "s"
      refine ⟨(l, _) :: H, .pick (.tail .head) (by walk_at "sub"), ?_⟩
      have e0 : ndig 0 n = 0 := by
        have := ndig_le (x := 0) (n := n) (k := 0) hn (by simp)
        lia
      have := q l
      rw [e0] at this ⊢
      exact this
end
end
noncomputable section
section
variable {C : Cfg} {a : Ad} {A : Around} {H : AH} {Q : V → AH → Prop}
theorem take_drop_split {α : Type} (l : List α) {i m j : Nat} (h1 : i ≤ m) (h2 : m ≤ j) : (l.drop i).take (j - i) = (l.drop i).take (m - i) ++ (l.drop m).take (j - m) := by
  have e : j - i = (m - i) + (j - m) := splitL h1 h2
  rw [e, List.take_add, List.drop_drop]
  congr 3
  exact Nat.add_sub_cancel' h1
theorem sp_d2iInner (W : W3 C a) {n : Nat} {fi cn ci ca ld : Addr} {ds : List Int} {B : Nat} (hB : B ≤ 10000) (hds : ∀ d ∈ ds, d.natAbs < 2 ^ B) (hz : ds.length ≤ 8000) (hnz : (n + 1) * ds.length ≤ 100000) : ∀ (d : Nat) {A : Around} {Q : V → AH → Prop} {H : AH} {L R : Nat}, Room A (d + 1) → R - L ≤ 2 ^ d → L < R → R ≤ ds.length →
    (fi, AO.fn (F_d2iInner [("n", cn), ("inner", ci), ("digits", ca)])) ∈ H → (cn, AO.cell (some (.int (n : Nat)))) ∈ H → (ci, AO.cell (some (.ref fi))) ∈ H → (ca, AO.cell (some (.ref ld))) ∈ H → (ld, AO.list (ds.map V.int)) ∈ H →
    Q (.int (d2i n ((ds.drop L).take (R - L)))) H →
    WPC C A (.ref fi) [.int L, .int R] Q H := by
  intro d
  induction d with
  | zero =>
    intro A Q H L R hr hd hlt hR m1 m2 m3 m4 m5 q
    have G := W.G
    refine call_ok (cl := [("n", cn), ("inner", ci), ("digits", ca)]) (ok_d2iInner _) G (fnAt_of_fn m1) hr rfl rfl (by walk_at "init") rfl rfl fun Lo cd A' env hr' hD FE he => ?_
    have hRL : R = L + 1 := by lia
    subst hRL
    repeat walk_at "s"
    refine ⟨fun _ => ?_, fun h => by simp at h⟩
    repeat walk_at "s"
    refine gi_list (v := .int ds[L]) (by walk_at "mem") (by lia) (by simp) (by simp; lia) ?_
    repeat walk_at "s"
    refine ⟨H, by walk_at "sub", ?_⟩
    have e1 : L + 1 - L = 1 := Nat.add_sub_cancel_left ..
    have e2 : (ds.drop L).take 1 = [ds[L]] := by rw [List.drop_eq_getElem_cons (by lia)]; rfl
    rw [e1, e2] at q
    show Q (.int _) H
    simpa [d2i] using q
  | succ d ih =>
    intro A Q H L R hr hd hlt hR m1 m2 m3 m4 m5 q
    have G := W.G
    refine call_ok (cl := [("n", cn), ("inner", ci), ("digits", ca)]) (ok_d2iInner _) G (fnAt_of_fn m1) hr rfl rfl (by walk_at "init") rfl rfl fun Lo cd A' env hr' hD FE he => ?_
    by_cases h1 : R = L + 1
    · subst h1
      repeat walk_at "s"
      refine ⟨fun _ => ?_, fun h => by simp at h⟩
      repeat walk_at "s"
      refine gi_list (v := .int ds[L]) (by walk_at "mem") (by lia) (by simp) (by simp; lia) ?_
      repeat walk_at "s"
      refine ⟨H, by walk_at "sub", ?_⟩
      have e1 : L + 1 - L = 1 := Nat.add_sub_cancel_left ..
      have e2 : (ds.drop L).take 1 = [ds[L]] := by rw [List.drop_eq_getElem_cons (by lia)]; rfl
      rw [e1, e2] at q
      show Q (.int _) H
      simpa [d2i] using q
    · repeat walk_at "s"
      refine ⟨fun h => absurd (by simp at h; lia) h1, fun _ => ?_⟩
      repeat walk_at "s"
      refine op_rshift_int (by decide) ?_
      have e0 : ((L : Int) + (R : Int)).fdiv (2 ^ (1 : Int).toNat) = (((L + R) / 2 : Nat) : Int) := shr_nat (L + R) 1
      rw [e0]
      generalize hM : (L + R) / 2 = M
      have hML : L < M := (halves hM hlt h1).1
      have hMR : M < R := (halves hM hlt h1).2
      have hM20 : M < 2 ^ 20 := Nat.lt_of_lt_of_le (Nat.lt_of_lt_of_le hMR hR) (Nat.le_trans hz (by decide))
      have hMLn : n * (M - L) ≤ 100000 := Nat.le_trans (Nat.mul_le_mul (Nat.le_succ n) (Nat.le_trans (Nat.sub_le _ _) (Nat.le_trans (Nat.le_of_lt hMR) hR))) hnz
      have hnle : n ≤ 100000 := Nat.le_trans (Nat.le_mul_of_pos_right n (Nat.sub_pos_of_lt hML)) hMLn
      repeat walk_at "s"
      refine op_mul_int (mulOk (k := 20) (l := 20) (abs_diff (Nat.lt_trans hML hM20) hM20) (by rw [Int.natAbs_natCast]; exact Nat.lt_of_le_of_lt hnle (by decide)) (by decide)) ?_
      have e2 : ((M : Int) - (L : Int)) * (n : Int) = ((n * (M - L) : Nat) : Int) := by
        rw [csub (Nat.le_of_lt hML), Nat.mul_comm]; push_cast; rfl
      rw [e2]
      generalize hS : n * (M - L) = S at hMLn ⊢
      repeat walk_at "s"
      refine ih hr' (halvesD hM hd).2 hMR hR (.tail _ m1) (.tail _ m2) (.tail _ m3) (.tail _ m4) (.tail _ m5) ?_
      repeat walk_at "s"
      refine op_lshift_int (Int.natCast_nonneg _) ?_ ?_
      · have hb := d2i_bound n B ((ds.drop M).take (R - M)) fun e he => hds e (List.mem_of_mem_drop (List.mem_of_mem_take he))
        have hb2 := intBits_le hb
        have hb3 : (n + 1) * ((ds.drop M).take (R - M)).length ≤ (n + 1) * ds.length := Nat.mul_le_mul_left _ (by rw [List.length_take, List.length_drop]; exact Nat.le_trans (Nat.min_le_right _ _) (Nat.sub_le _ _))
        have h2 : (2 : Int) ^ 27 = 134217728 := rfl
        rw [h2]
        exact Int.ofNat_le.mpr (Nat.le_trans (Nat.add_le_add (Nat.le_trans hb2 (Nat.add_le_add hB (Nat.le_trans hb3 hnz))) hMLn) (by decide))
      repeat walk_at "s"
      refine ih hr' (halvesD hM hd).1 hML (Nat.le_trans (Nat.le_of_lt hMR) hR) (.tail _ m1) (.tail _ m2) (.tail _ m3) (.tail _ m4) (.tail _ m5) ?_
      repeat walk_at "s"
      refine ⟨H, by walk_at "sub", ?_⟩
      rw [take_drop_split ds (Nat.le_of_lt hML) (Nat.le_of_lt hMR), d2i_append] at q
      have e5 : ((ds.drop L).take (M - L)).length = M - L := by rw [List.length_take, List.length_drop]; exact Nat.min_eq_left (Nat.sub_le_sub_right (Nat.le_trans (Nat.le_of_lt hMR) hR) _)
      rw [e5, hS] at q
      have e6 : d2i n ((ds.drop M).take (R - M)) * 2 ^ (S : Int).toNat + d2i n ((ds.drop L).take (M - L)) = d2i n ((ds.drop L).take (M - L)) + 2 ^ S * d2i n ((ds.drop M).take (R - M)) := by
        rw [Int.toNat_natCast, Int.mul_comm, Int.add_comm]
      show Q (.int _) H
      rw [e6]
      exact q

theorem sp_digits2int {n : Nat} {ds : List Int} {B : Nat} {ld : Addr} (W : W3 C a) (hr : Room A 20) (hB : B ≤ 10000) (hds : ∀ d ∈ ds, d.natAbs < 2 ^ B) (hz : ds.length ≤ 8000) (hnz : (n + 1) * ds.length ≤ 100000) (hT : (a.pD2i, AO.tab "_digits2int.<locals>.inner") ∈ H) (hl : (ld, AO.list (ds.map V.int)) ∈ H)
    (q : Q (.int (d2i n ds)) H) : WPC C A (.ref a.d2i) [.ref ld, .int n] Q H := by
  have G := W.G
  obtain ⟨c, hF, hC⟩ := W.d2i
  refine call_okC ok_digits2int G (fun s R => hF.keeps R.keep) hr rfl rfl rfl (vals := []) rfl (VOk.get (.rest rfl)) fun L cs A' env hcs hr' FE he => ?_
  obtain ⟨c1, c2, c3, rfl⟩ := cells3 hcs
  refine ⟨_, .other (.param (.tail .head) (.param .head .nil)), ?_⟩
  have hA := hr'.hd
  simp only [List.cons_append, List.nil_append]
  repeat walk_at "s"
  refine wp1_DefF (F_d2iInner [("n", c2), ("inner", c1), ("digits", c3)]) G (by rw [he]; rfl) hC (by rw [he]; rfl) (by walk_at "mem") (closure_of (fs := ["digits", "inner", "n"]) (cs := [c3, c1, c2]) FE (by decide +kernel) rfl (by simp)) ?_ (he ▸ qual_in (k := .cell) (by decide +kernel) (by decide) (by decide +kernel))
  intro fi
  repeat walk_at "s"
  refine tr_list (by walk_at "mem") (by simp; lia) ⟨fun h0 => ?_, fun h0 => ?_⟩
  · repeat walk_at "s"
    refine c_len_list (by walk_at "mem") (by simp; lia) ?_
    have h13 : (2 : Nat) ^ 13 = 8192 := rfl
    rw [List.length_map]
    repeat walk_at "s"
    refine sp_d2iInner (fi := fi) (cn := c2) (ci := c1) (ca := c3) (ld := ld) W hB hds hz hnz 13 (L := 0) (hr'.mono (by decide)) (by lia) (by simpa using h0) (Nat.le_refl _) (by walk_at "mem") (by walk_at "mem") (by walk_at "mem") (by walk_at "mem") (by walk_at "mem") ?_
    repeat walk_at "s"
    refine ⟨H, by walk_at "sub", ?_⟩
    show Q (.int _) H
    simpa using q
  · have : ds = [] := by simpa using h0
    subst this
    repeat walk_at "s"
    exact ⟨H, by walk_at "sub", q⟩
end
end
noncomputable section
section
variable {C : Cfg} {a : Ad} {A : Around} {H : AH} {Q : V → AH → Prop}
theorem noPy {x y : Int} (h : y.natAbs < 2 ^ 8000) : Builtin.divisionGoesByPylong x y = false := by
  refine PyProof.noPylong_of_log2 ?_
  by_cases h0 : y.natAbs = 0
  · rw [h0]; decide
  · exact Nat.lt_trans ((Nat.log2_lt h0).mpr h) (by decide)
theorem digs_get {x n k i : Nat} (h : i < k) : (digs x n k)[i]? = some (x / 2 ^ (n * i) % 2 ^ n) := by
  simp [digs, h]
theorem dm_step (x y n m : Nat) (hy : 0 < y) : x / 2 ^ (n * m) = x / 2 ^ (n * (m + 1)) * 2 ^ n + x / 2 ^ (n * m) % 2 ^ n := by
  have h1 : x / 2 ^ (n * (m + 1)) = x / 2 ^ (n * m) / 2 ^ n := by rw [Nat.div_div_eq_div_mul, ← Nat.pow_add, Nat.mul_add, Nat.mul_one]
  rw [h1, Nat.mul_comm (x / 2 ^ (n * m) / 2 ^ n)]
  exact (Nat.div_add_mod _ _).symm
theorem dm_divmod (T y p d : Nat) (hy : 0 < y) : (T * p + d) / y = T / y * p + (T % y * p + d) / y ∧ (T * p + d) % y = (T % y * p + d) % y := by
  have h := Nat.div_add_mod T y
  have e : T * p + d = y * (T / y * p) + (T % y * p + d) := by
    have h2 : T * p = (y * (T / y) + T % y) * p := by rw [h]
    rw [h2, Nat.add_mul, Nat.mul_assoc]; lia
  constructor
  · rw [e, Nat.mul_add_div hy]
  · rw [e, Nat.mul_add_mod]
theorem sp_divmod_pos {x y : Nat} (W : W3 C a) (hr : Room A 22) (hy : 0 < y) (hx : x < 2 ^ 3000) (hyb : y < 2 ^ 3000) (hT : (a.pI2d, AO.tab "_int2digits.<locals>.inner") ∈ H) (hT2 : (a.pD2i, AO.tab "_digits2int.<locals>.inner") ∈ H)
    (q : Q (.tup [.int (x / y : Nat), .int (x % y : Nat)]) H) : WPC C A (.ref a.dmp) [.int x, .int y] Q H := by
  have G := W.G
  obtain ⟨cd, hF⟩ := W.dmp
  refine call_ok ok_divmod_pos G (fnAt_of_base hF) hr rfl rfl (by walk_at "init") rfl rfl fun L cd A' env hr' hD FE he => ?_
  have hA := hr'.hd
  repeat walk_at "s"
  refine wpm_bitlen ?_
  repeat walk_at "s"
  refine c_bitlen ?_
  have hn1 := bits_pos (x := y) (by lia)
  have hn2 : Builtin.Int.intBits (y : Int) ≤ 3000 := intBits_le (by rw [Int.natAbs_natCast]; exact hyb)
  have hyn := bits_lt y
  generalize Builtin.Int.intBits (y : Int) = n at hn1 hn2 hyn ⊢
  repeat walk_at "s"
  refine sp_int2digits W (hr'.mono (by decide)) hn1 (Nat.lt_trans hx (Nat.pow_lt_pow_right (by decide) (by decide))) (by lia) (by walk_at "mem") ?_
  intro l
  have hxk := lt_ndig (x := x) hn1
  have hbits : Builtin.Int.intBits (x : Int) ≤ 3000 := intBits_le (by rw [Int.natAbs_natCast]; exact hx)
  have hmul := ndig_mul_le (x := x) (n := n)
  generalize ndig x n = k at hxk hmul ⊢
  have hk : k ≤ 6000 := Nat.le_trans (Nat.le_mul_of_pos_left k hn1) (by lia)
  repeat walk_at "s"
  intro ql
  repeat walk_at "s"
  refine wp1_For (wpi_Call ?_)
  repeat walk_at "s"
  refine ci_reversed hA (by walk_at "mem") ?_
  refine ⟨fun i H₁ => ∃ (qs : List Nat) (v1 v2 : Option V), i ≤ k ∧ qs.length = i ∧ (∀ e ∈ qs, e < 2 ^ n) ∧ d2i n (qs.reverse.map Int.ofNat) = ((x / 2 ^ (n * (k - i)) / y : Nat) : Int) ∧
    H₁ = (ql, AO.list (natVs qs)) :: (l, .list (natVs (digs x n k))) :: (L, AO.ns ["a", "b", "n", "a_digits", "r", "q_digits", "a_digit", "q_digit", "q"] [some (.int x), some (.int y), some (.int n), some (.ref l), some (.int ((x / 2 ^ (n * (k - i)) % y : Nat) : Int)), some (.ref ql), v1, v2, none]) :: H, k, ?_, ?_⟩
  · have e0 : x / 2 ^ (n * (k - 0)) = 0 := by rw [Nat.sub_zero]; exact Nat.div_eq_of_lt hxk
    refine ⟨[], none, none, Nat.zero_le _, rfl, by simp, ?_, ?_⟩
    · rw [e0]; simp [d2i]
    · rw [e0, Nat.zero_mod]; rfl
  · rintro i H₁ ⟨qs, v1, v2, hi, hlen, hq, hv, rfl⟩
    by_cases hik : i < k
    · left
      have hm : k - i = (k - (i + 1)) + 1 := sub_s (by assumption)
      have hget : (natVs (digs x n k)).reverse[i]? = some (.int ((x / 2 ^ (n * (k - (i + 1))) % 2 ^ n : Nat) : Int)) := by
        rw [List.getElem?_reverse (by simp [digs_length]; exact hik)]
        simp only [natVs, List.length_map, digs_length, List.getElem?_map]
        have : k - 1 - i = k - (i + 1) := by rw [Nat.sub_sub, Nat.add_comm]
        rw [this, digs_get (by lia)]; rfl
      refine ⟨_, hik, ⟨_, by walk_at "mem", by simp [digs_length], hget.symm⟩, ?_⟩
      have st := dm_step x y n (k - (i + 1)) hy
      rw [hm] at hv ⊢
      generalize x / 2 ^ (n * (k - (i + 1) + 1)) = T at hv st ⊢
      generalize hd : x / 2 ^ (n * (k - (i + 1))) % 2 ^ n = d at st ⊢
      have hdlt : d < 2 ^ n := hd ▸ Nat.mod_lt _ (Nat.two_pow_pos _)
      repeat walk_at "s"
      refine wp1_Assign ?_
      repeat walk_at "s"
      have hT1 : T % y < 2 ^ n := Nat.lt_trans (Nat.mod_lt _ hy) hyn
      refine op_lshift_int (by lia) ?_ ?_
      · have : Builtin.Int.intBits ((T % y : Nat) : Int) ≤ n := intBits_le (by rw [Int.natAbs_natCast]; exact hT1)
        have h2 : (2 : Int) ^ 27 = 134217728 := rfl
        rw [h2]; lia
      rw [shl_nat]
      repeat walk_at "s"
      have e3 : ((T % y * 2 ^ n : Nat) : Int) + (d : Int) = ((T % y * 2 ^ n + d : Nat) : Int) := by push_cast; rfl
      rw [e3]
      have hlt2 : T % y * 2 ^ n + d < 2 ^ (n + n) := by
        rw [Nat.pow_add]
        have := Nat.mul_le_mul_right (2 ^ n) (show T % y + 1 ≤ 2 ^ n from hT1)
        rw [Nat.add_mul, Nat.one_mul] at this
        lia
      refine sp_div2 W (hr'.mono (by decide)) (by lia) ?_ (noPy (by rw [Int.natAbs_natCast]; exact Nat.lt_trans hyb (Nat.pow_lt_pow_right (by decide) (by decide)))) ?_
      · have : Builtin.Int.intBits ((T % y * 2 ^ n + d : Nat) : Int) ≤ n + n := intBits_le (by rw [Int.natAbs_natCast]; exact hlt2)
        lia
      rw [fdiv_nat, fmod_nat]
      refine asg_Tuple hA (wpas_cons ?_)
      repeat walk_at "s"
      refine wpas_cons ?_
      repeat walk_at "s"
      refine wpas_nil ?_
      repeat walk_at "s"
      refine wpm_append (by walk_at "mem") ?_
      repeat walk_at "s"
      refine c_append (by walk_at "upd") (by simp; lia) ?_
      repeat walk_at "s"
      obtain ⟨d1, d2⟩ := dm_divmod T y (2 ^ n) d hy
      have hql : (T % y * 2 ^ n + d) / y < 2 ^ n := by
        rw [Nat.div_lt_iff_lt_mul hy]
        have := Nat.mul_le_mul_right (2 ^ n) (show T % y + 1 ≤ y from Nat.mod_lt _ hy)
        rw [Nat.add_mul, Nat.one_mul, Nat.mul_comm y] at this
        lia
      refine ⟨qs ++ [(T % y * 2 ^ n + d) / y], some (.int (d : Nat)), some (.int ((T % y * 2 ^ n + d) / y : Nat)), hik, by simp [hlen], ?_, ?_, ?_⟩
      · intro e he
        rcases List.mem_append.mp he with he | he
        · exact hq e he
        · rw [List.mem_singleton.mp he]; exact hql
      · rw [List.reverse_append, List.map_append]
        show d2i n (Int.ofNat _ :: qs.reverse.map Int.ofNat) = _
        rw [d2i, hv, st, d1]
        push_cast
        rw [Int.add_comm, Int.mul_comm]
        rfl
      · rw [st, d2]
        simp
    · right
      have : i = k := by lia
      subst this
      refine ⟨⟨_, by walk_at "mem", by simp [digs_length], by simp [digs_length]⟩, ?_⟩
      repeat walk_at "s"
      refine wpm_reverse (by walk_at "mem") ?_
      repeat walk_at "s"
      refine c_reverse (by walk_at "upd") (by simp; lia) ?_
      have er : (natVs qs).reverse = (qs.reverse.map Int.ofNat).map V.int := by
        rw [List.map_map, natVs, ← List.map_reverse]; rfl
      rw [er]
      repeat walk_at "s"
      refine sp_digits2int (B := n) (ds := qs.reverse.map Int.ofNat) W (hr'.mono (by decide)) (by lia) (fun d hd => ?_) (by simp; lia) ?_ (by walk_at "mem") (by walk_at "mem") ?_
      · obtain ⟨e, he, rfl⟩ := List.mem_map.mp hd
        exact hq e (List.mem_reverse.mp he)
      · simp only [List.length_map, List.length_reverse, hlen]
        rw [Nat.add_mul, Nat.one_mul]; lia
      rw [hv, Nat.sub_self, Nat.mul_zero, Nat.pow_zero, Nat.div_one]
      repeat walk_at "s"
      exact ⟨H, by walk_at "sub", q⟩

theorem sp_int_divmod (W : W3 C a) (hT : (a.pI2d, AO.tab "_int2digits.<locals>.inner") ∈ H) (hT2 : (a.pD2i, AO.tab "_digits2int.<locals>.inner") ∈ H) {x y : Nat} (hr : Room A 23) (hy : 0 < y) (hx : x < 2 ^ 3000) (hyb : y < 2 ^ 3000)
    (q : Q (.tup [.int (x / y : Nat), .int (x % y : Nat)]) H) : WPC C A (.ref a.idm) [.int x, .int y] Q H := by
  have G := W.G
  obtain ⟨cd, hF⟩ := W.idm
  refine call_ok ok_int_divmod G (fnAt_of_base hF) hr rfl rfl (by walk_at "init") rfl rfl fun L cd A' env hr' hD FE he => ?_
  repeat walk_at "s"
  refine ⟨fun h => absurd h (by simp; lia), fun _ => ?_⟩
  repeat walk_at "s"
  refine ⟨fun h => absurd h (by simp), fun _ => ?_⟩
  repeat walk_at "s"
  refine ⟨fun h => absurd h (by simp), fun _ => ?_⟩
  repeat walk_at "s"
  refine sp_divmod_pos W (hr'.mono (by decide)) hy hx hyb (by walk_at "mem") (by walk_at "mem") ?_
  repeat walk_at "s"
  exact ⟨H, by walk_at "sub", q⟩
end
end
noncomputable section
noncomputable abbrev wsS : Str := "\n\t\r "
noncomputable abbrev netA (n : Int) (fp : V) (pb : Addr) : List (Str × V) := [("lineno", .int n), ("instream", fp), ("whitespace", .str wsS), ("pushback", .ref pb)]
theorem net_line {n fp pb} : (netA n fp pb).lookup ("lineno" : Str) = some (V.int n) := rfl
theorem net_in {n fp pb} : (netA n fp pb).lookup ("instream" : Str) = some fp := rfl
theorem net_ws {n fp pb} : (netA n fp pb).lookup ("whitespace" : Str) = some (V.str wsS) := rfl
theorem net_pb {n fp pb} : (netA n fp pb).lookup ("pushback" : Str) = some (V.ref pb) := rfl
theorem net_no1 {n fp pb} : (netA n fp pb).lookup ("_read_char" : Str) = none := rfl
theorem net_no2 {n fp pb} : (netA n fp pb).lookup ("get_token" : Str) = none := rfl
theorem net_no3 {n fp pb} : (netA n fp pb).lookup ("push_token" : Str) = none := rfl
theorem put_line {n m fp pb} : putE "lineno" (.int m) (netA n fp pb) = netA m fp pb := rfl
noncomputable abbrev EL := List (Str × V)
theorem put_1 {n : Int} : putE "lineno" (.int n) [] = ([("lineno", .int n)] : EL) := rfl
theorem put_2 {n : Int} {fp : V} : putE "instream" fp ([("lineno", .int n)] : EL) = ([("lineno", .int n), ("instream", fp)] : EL) := rfl
theorem put_3 {n : Int} {fp : V} {w : V} : putE "whitespace" w ([("lineno", .int n), ("instream", fp)] : EL) = ([("lineno", .int n), ("instream", fp), ("whitespace", w)] : EL) := rfl
theorem put_4 {n : Int} {fp : V} {w p : V} : putE "pushback" p ([("lineno", .int n), ("instream", fp), ("whitespace", w)] : EL) = ([("lineno", .int n), ("instream", fp), ("whitespace", w), ("pushback", p)] : EL) := rfl
section
variable {C : Cfg} {a : Ad} {A : Around} {H H' : AH} {Q : V → AH → Prop} {QU : Unit → AH → Prop} {x dx Cl : Addr} {es es' : List (Str × V)} {name : Str} {gl : List (Str × V)}
theorem sa_own' {v : V} (he : putE name v es = es') (G : C.Ok gl) (O : ClsOk C.K Cl) (ht : takerIn C.K Cl name = some none) (hx : (x, AO.obj (instObj Cl dx)) ∈ H) (hu : Mine.Upd dx (.attrs es) (.attrs es') H H') (hz : es.length ≤ 900) (q : QU () H') :
    Op2 C A URel (fun o v => setAttr o name v) (.ref x) v QU H := sa_own G O hx (he.symm ▸ hu) ht hz q
theorem sp_net {fp : V} (W : W3 C a) (hr : Room A 3) (q : ∀ x dx pb, Q (.ref x) ((x, .obj (instObj a.cls dx)) :: (dx, .attrs (netA 1 fp pb)) :: (pb, .list []) :: H)) : WPC C A (.ref a.cls) [fp] Q H := by
  have G := W.G
  have O := W.cls.ok
  obtain ⟨cd, hF⟩ := W.fInit
  refine mk_inst (F := F_init) (ln := ["self", "fp"]) (vals := [none, some fp]) G O trivial W.cls.init W.cls.initT (fun H => fnAt_of_base hF) hr rfl ok_init.binds (fun x hx => (ok_init.hl x hx).1) ok_init.nd (fun x hx e => nomatch ok_init.allc x hx e) (fun x => .arg (.arg .done)) ?_
  intro x dx L cd' A' hr' hD
  have FE := ok_init.env L a.fInit cd' rfl
  generalize envF F_init L a.fInit cd' F_init.closure = env at FE ⊢
  simp only [List.set_cons_zero]
  repeat walk_at "s"
  refine wp1_Assign ?_
  repeat walk_at "s"
  refine asg_Attribute ?_
  repeat walk_at "s"
  refine sa_own' put_1 G O W.cls.at1.2 (by walk_at "mem") (by walk_at "upd") (by decide) ?_
  repeat walk_at "s"
  refine wp1_Assign ?_
  repeat walk_at "s"
  refine asg_Attribute ?_
  repeat walk_at "s"
  refine sa_own' put_2 G O W.cls.at2.2 (by walk_at "mem") (by walk_at "upd") (by simp) ?_
  repeat walk_at "s"
  refine wp1_Assign ?_
  repeat walk_at "s"
  refine asg_Attribute ?_
  repeat walk_at "s"
  refine sa_own' put_3 G O W.cls.at3.2 (by walk_at "mem") (by walk_at "upd") (by simp) ?_
  repeat walk_at "s"
  refine wp1_Assign ?_
  repeat walk_at "s"
  intro pb
  refine asg_Attribute ?_
  repeat walk_at "s"
  refine sa_own' put_4 G O W.cls.at4.2 (by walk_at "mem") (by walk_at "upd") (by simp) ?_
  repeat walk_at "s"
  exact ⟨(x, .obj (instObj a.cls dx)) :: (dx, .attrs (netA 1 fp pb)) :: (pb, .list []) :: H, .pick (.tail (.tail .head)) (.pick (.tail (.tail .head)) (.pick .head (by walk_at "sub"))), rfl, q x dx pb⟩

theorem not_bi {v : V} (h : ∀ i, v ≠ .bi i) : ∀ i, v = .bi i → handedIn (.builtin i) = true := fun i e => absurd e (h i)
theorem sp_push {x dx pb : Addr} {n : Int} {fp v : V} {vs : List V} (W : W3 C a) (hr : Room A 1) (hx : (x, AO.obj (instObj a.cls dx)) ∈ H) (hd : (dx, AO.attrs (netA n fp pb)) ∈ H) (hu : Mine.Upd pb (.list vs) (.list (vs ++ [v])) H H') (hz : vs.length ≤ 100000) (q : Q .none H') :
    WPC C A (.ref a.fPush) [.ref x, v] Q H := by
  have G := W.G
  obtain ⟨cd, hF⟩ := W.fPush
  refine call_ok ok_push G (fnAt_of_base hF) hr rfl rfl (by walk_at "init") rfl rfl fun L cd A' env hr' hD FE he => ?_
  have hm := hu.mem
  repeat walk_at "s"
  refine ga_own G W.cls.ok (.tail _ hx) (.tail _ hd) net_pb W.cls.at4.1 rfl (not_bi fun i e => nomatch e) ?_
  refine wpm_append (by walk_at "mem") ?_
  repeat walk_at "s"
  refine c_append (.tail hu) hz ?_
  repeat walk_at "s"
  exact ⟨H', by walk_at "sub", q⟩
theorem gm_push {x dx pb : Addr} {n : Int} {fp : V} {QM : V → List V → AH → Prop} (W : W3 C a) (hx : (x, AO.obj (instObj a.cls dx)) ∈ H) (hd : (dx, AO.attrs (netA n fp pb)) ∈ H) (q : QM (.ref a.fPush) [.ref x] H) : WPM C A (.ref x) "push_token" QM H :=
  gm_inst W.G W.cls.ok hx hd net_no3 W.cls.push W.cls.pushT q
theorem gm_get {x dx pb : Addr} {n : Int} {fp : V} {QM : V → List V → AH → Prop} (W : W3 C a) (hx : (x, AO.obj (instObj a.cls dx)) ∈ H) (hd : (dx, AO.attrs (netA n fp pb)) ∈ H) (q : QM (.ref a.fGet) [.ref x] H) : WPM C A (.ref x) "get_token" QM H :=
  gm_inst W.G W.cls.ok hx hd net_no2 W.cls.get W.cls.getT q
theorem gm_read {x dx pb : Addr} {n : Int} {fp : V} {QM : V → List V → AH → Prop} (W : W3 C a) (hx : (x, AO.obj (instObj a.cls dx)) ∈ H) (hd : (dx, AO.attrs (netA n fp pb)) ∈ H) (q : QM (.ref a.fRead) [.ref x] H) : WPM C A (.ref x) "_read_char" QM H :=
  gm_inst W.G W.cls.ok hx hd net_no1 W.cls.read W.cls.readT q
theorem ga_pb {x dx pb : Addr} {n : Int} {fp : V} {expr : Bool} (W : W3 C a) (hx : (x, AO.obj (instObj a.cls dx)) ∈ H) (hd : (dx, AO.attrs (netA n fp pb)) ∈ H) (q : Q (.ref pb) H) : Op1 C A (VRel C.X) (fun o => getAttr o "pushback" expr) (.ref x) Q H :=
  ga_own W.G W.cls.ok hx hd net_pb W.cls.at4.1 rfl (not_bi fun i e => nomatch e) q
theorem ga_line {x dx pb : Addr} {n : Int} {fp : V} {expr : Bool} (W : W3 C a) (hx : (x, AO.obj (instObj a.cls dx)) ∈ H) (hd : (dx, AO.attrs (netA n fp pb)) ∈ H) (q : Q (.int n) H) : Op1 C A (VRel C.X) (fun o => getAttr o "lineno" expr) (.ref x) Q H :=
  ga_own W.G W.cls.ok hx hd net_line W.cls.at1.1 rfl (not_bi fun i e => nomatch e) q
theorem ga_ws {x dx pb : Addr} {n : Int} {fp : V} {expr : Bool} (W : W3 C a) (hx : (x, AO.obj (instObj a.cls dx)) ∈ H) (hd : (dx, AO.attrs (netA n fp pb)) ∈ H) (q : Q (.str wsS) H) : Op1 C A (VRel C.X) (fun o => getAttr o "whitespace" expr) (.ref x) Q H :=
  ga_own W.G W.cls.ok hx hd net_ws W.cls.at3.1 rfl (not_bi fun i e => nomatch e) q
theorem ga_in {x dx pb fp : Addr} {n : Int} {expr : Bool} (W : W3 C a) (hx : (x, AO.obj (instObj a.cls dx)) ∈ H) (hd : (dx, AO.attrs (netA n (.ref fp) pb)) ∈ H) (q : Q (.ref fp) H) : Op1 C A (VRel C.X) (fun o => getAttr o "instream" expr) (.ref x) Q H :=
  ga_own W.G W.cls.ok hx hd net_in W.cls.at2.1 rfl (not_bi fun i e => nomatch e) q
end
end
noncomputable section
noncomputable abbrev sg (c : Nat) : Str := ⟨#[c]⟩
noncomputable abbrev signVs (cs : List Nat) : List V := cs.map fun c => V.str (sg c)
section
variable {C : Cfg} {a : Ad} {A : Around} {H H' : AH} {Q : V → AH → Prop}
theorem sp_lam1 {rd cl ll : Addr} {c : Nat} {cs : List Nat} {n : Int} (W : W3 C a) (hr : Room A 1) (m1 : (rd, AO.fn (F_lam [("left", cl)])) ∈ H) (m2 : (cl, AO.cell (some (.ref ll))) ∈ H) (hu : Mine.Upd ll (.list (signVs (c :: cs))) (.list (signVs cs)) H H') (hz : cs.length ≤ 90000)
    (q : Q (.str (sg c)) H') : WPC C A (.ref rd) [.int n] Q H := by
  have G := W.G
  refine call_okE (cl := [("left", cl)]) (ok_lam _) G (fnAt_of_fn m1) hr rfl rfl (by walk_at "init") rfl rfl fun L cd A' env hr' hD FE he => ?_
  have hm := hu.mem
  repeat walk_at "s"
  refine tr_list (by walk_at "mem") (by simp; lia) ⟨fun _ => ?_, fun h => by simp at h⟩
  repeat walk_at "s"
  refine wpm_pop (by walk_at "mem") ?_
  repeat walk_at "s"
  refine c_pop0 (.tail hu) (by simp; lia) ?_
  exact ⟨H', by walk_at "sub", q⟩
theorem sp_lam0 {rd cl ll : Addr} {n : Int} (W : W3 C a) (hr : Room A 1) (m1 : (rd, AO.fn (F_lam [("left", cl)])) ∈ H) (m2 : (cl, AO.cell (some (.ref ll))) ∈ H) (m3 : (ll, AO.list []) ∈ H)
    (q : Q (.str "") H) : WPC C A (.ref rd) [.int n] Q H := by
  have G := W.G
  refine call_okE (cl := [("left", cl)]) (ok_lam _) G (fnAt_of_fn m1) hr rfl rfl (by walk_at "init") rfl rfl fun L cd A' env hr' hD FE he => ?_
  repeat walk_at "s"
  refine tr_list (by walk_at "mem") (by simp) ⟨fun h => by simp at h, fun _ => ?_⟩
  repeat walk_at "s"
  exact ⟨H, by walk_at "sub", q⟩

theorem fs_read : typeLookup (.type "function") "read" = pure none := by rw [typeLookup_type, builtinLookup_eq_fast]; kernel_rfl
structure Rd (a : Ad) (x dx fp fd rd cl ll pb : Addr) (H : AH) : Prop where
  x : (x, AO.obj (instObj a.cls dx)) ∈ H
  fp : (fp, AO.fobj fd) ∈ H
  fd : (fd, AO.attrs [("read", .ref rd)]) ∈ H
  rd : (rd, AO.fn (F_lam [("left", cl)])) ∈ H
  cl : (cl, AO.cell (some (.ref ll))) ∈ H
theorem Rd.cons {x dx fp fd rd cl ll pb : Addr} (R : Rd a x dx fp fd rd cl ll pb H) (p : Addr × AO) : Rd a x dx fp fd rd cl ll pb (p :: H) := ⟨.tail _ R.x, .tail _ R.fp, .tail _ R.fd, .tail _ R.rd, .tail _ R.cl⟩
noncomputable abbrev lnOf (n : Int) (c : Nat) : Int := if c = 10 then n + 1 else n
theorem sg_eq (c : Nat) : (sg c == ("\n" : Str)) = decide (c = 10) := by
  have : ("\n" : Str) = sg 10 := by decide +kernel
  rw [this]
  by_cases h : c = 10
  · subst h; rfl
  · rw [decide_eq_false h]
    refine beq_eq_false_iff_ne.mpr fun e => h ?_
    have := congrArg (fun s : Str => s.cps.toList) e
    simpa using this
theorem sp_read {x dx fp fd rd cl ll pb : Addr} {c : Nat} {cs : List Nat} {n : Int} {K : AO → AO → AH} (W : W3 C a) (hr : Room A 2) (R : Rd a x dx fp fd rd cl ll pb H) (hk : Hole2 ll (.list (signVs (c :: cs))) dx (.attrs (netA n (.ref fp) pb)) H K) (hz : cs.length ≤ 90000)
    (hK : Rd a x dx fp fd rd cl ll pb (K (.list (signVs cs)) (.attrs (netA n (.ref fp) pb))))
    (q : Q (.str (sg c)) (K (.list (signVs cs)) (.attrs (netA (lnOf n c) (.ref fp) pb)))) : CodeC C A a.fRead [.ref x] Q H := by
  have G := W.G
  obtain ⟨cd, hF⟩ := W.fRead
  refine code_ok ok_read G (fnAt_of_base hF) hr rfl rfl (by walk_at "init") rfl rfl fun L cd A' env hr' hD FE he => ?_
  have e := hk.eq
  subst e
  have hd := hk.mem2 (.list (signVs (c :: cs))) (.attrs (netA n (.ref fp) pb))
  repeat walk_at "s"
  refine ga_in W (.tail _ R.x) (.tail _ hd) ?_
  refine gm_fobj fs_read (.tail _ R.fp) (.tail _ R.fd) rfl (not_bi fun i e => nomatch e) ?_
  repeat walk_at "s"
  refine sp_lam1 W hr' (.tail _ R.rd) (.tail _ R.cl) (.tail (hk.upd1 _ (.list (signVs cs)) _)) hz ?_
  repeat walk_at "s"
  rw [sg_eq]
  refine ⟨fun h => ?_, fun h => ?_⟩
  · have hc : c = 10 := by simpa using h
    subst hc
    repeat walk_at "s"
    refine wp1_Aug_Attribute ?_
    repeat walk_at "s"
    have hd' := hk.mem2 (.list (signVs cs)) (.attrs (netA n (.ref fp) pb))
    refine ga_line W (.tail _ hK.x) (.tail _ hd') ?_
    repeat walk_at "s"
    refine sa_own' put_line G W.cls.ok W.cls.at1.2 (.tail _ hK.x) (.tail (hk.upd2 _ _ _)) (by simp) ?_
    repeat walk_at "s"
    refine ⟨_, .drop (.refl _), ?_⟩
    rw [lnOf, if_pos rfl] at q
    exact q
  · have hc : c ≠ 10 := by simpa using h
    repeat walk_at "s"
    refine ⟨_, .drop (.refl _), ?_⟩
    rw [lnOf, if_neg hc] at q
    exact q

theorem empty_ne : (("" : Str) == ("\n" : Str)) = false := by decide +kernel
theorem sp_read0 {x dx fp fd rd cl ll pb : Addr} {n : Int} (W : W3 C a) (hr : Room A 2) (R : Rd a x dx fp fd rd cl ll pb H) (hl : (ll, AO.list []) ∈ H) (hd : (dx, AO.attrs (netA n (.ref fp) pb)) ∈ H) (q : Q (.str "") H) : CodeC C A a.fRead [.ref x] Q H := by
  have G := W.G
  obtain ⟨cd, hF⟩ := W.fRead
  refine code_ok ok_read G (fnAt_of_base hF) hr rfl rfl (by walk_at "init") rfl rfl fun L cd A' env hr' hD FE he => ?_
  repeat walk_at "s"
  refine ga_in W (.tail _ R.x) (.tail _ hd) ?_
  refine gm_fobj fs_read (.tail _ R.fp) (.tail _ R.fd) rfl (not_bi fun i e => nomatch e) ?_
  repeat walk_at "s"
  refine sp_lam0 W hr' (.tail _ R.rd) (.tail _ R.cl) (.tail _ hl) ?_
  repeat walk_at "s"
  rw [empty_ne]
  refine ⟨fun h => by simp at h, fun h => ?_⟩
  repeat walk_at "s"
  exact ⟨H, by walk_at "sub", q⟩
end
end
noncomputable section
section
variable {C : Cfg} {a : Ad} {A : Around} {H H' : AH} {Q : V → AH → Prop}
theorem sp_get_pb {x dx pb : Addr} {n : Int} {fp t : V} {ts : List V} (W : W3 C a) (hr : Room A 1) (hx : (x, AO.obj (instObj a.cls dx)) ∈ H) (hd : (dx, AO.attrs (netA n fp pb)) ∈ H) (hu : Mine.Upd pb (.list (t :: ts)) (.list ts) H H') (hz : ts.length ≤ 90000) (q : Q t H') :
    WPC C A (.ref a.fGet) [.ref x] Q H := by
  have G := W.G
  obtain ⟨cd, hF⟩ := W.fGet
  refine call_ok ok_get G (fnAt_of_base hF) hr rfl rfl (by walk_at "init") rfl rfl fun L cd A' env hr' hD FE he => ?_
  have hm := hu.mem
  repeat walk_at "s"
  refine ga_pb W (.tail _ hx) (.tail _ hd) ?_
  refine tr_list (by walk_at "mem") (by simp; lia) ⟨fun _ => ?_, fun h => by simp at h⟩
  repeat walk_at "s"
  refine ga_pb W (.tail _ hx) (.tail _ hd) ?_
  refine wpm_pop (by walk_at "mem") ?_
  repeat walk_at "s"
  refine c_pop0 (.tail hu) (by lia) ?_
  repeat walk_at "s"
  exact ⟨H', by walk_at "sub", q⟩
end
end
noncomputable section
section
variable {C : Cfg} {a : Ad} {A : Around} {H H' : AH} {Q : V → AH → Prop}
theorem Room.in1 {A : Around} {n : Nat} (r : Room A (n + 1)) : Room A.in1 n := ⟨r.hd, by have := r.depth; show A.depth + n < 900; lia, by have := r.units; show A.units + 1 + 8 * n + 100 < 9900; lia⟩
noncomputable abbrev GF (a : Ad) (L x I m : Addr) (t : Str) (ch : Option V) (io : Obj) (R : AH) : AH :=
  (I, AO.obj io) :: (m, AO.obj (methodObj (.ref a.fRead) (.ref x))) :: (L, AO.ns ["self", "token", "fiter", "ch"] [some (.ref x), some (.str t), some (.ref I), ch]) :: R
theorem fRead_fn (W : W3 C a) : ∀ H s, Rel C H s → ∃ o fd, s.heap.get? a.fRead = some o ∧ o.data = .func fd := fun H s R => by
  obtain ⟨cd, hF⟩ := W.fRead
  obtain ⟨o, fd, ho, hd, _⟩ := (hF.keeps R.keep).ex
  exact ⟨o, fd, ho, hd⟩
theorem sg_ne (c : Nat) : sg c ≠ "" := fun e => by
  have h1 : ("" : Str).cps.size = 0 := by decide +kernel
  have h2 : (sg c).cps.size = 0 := by rw [e]; exact h1
  simp at h2
theorem nx_sign {L x I m dx fp fd rd cl ll pb tk : Addr} {c : Nat} {l : List Nat} {n : Int} {t : Str} {ch : Option V} {K : AO → AO → AH} {u v : AO} {H₀ : AH} {QN : Option V → AH → Prop} (W : W3 C a) (hr : Room A 4) (hk : Hole2 ll u dx v H₀ K) (hR : ∀ u v, Rd a x dx fp fd rd cl ll pb (K u v)) (hz : l.length ≤ 80000)
    (q : QN (some (.str (sg c))) (GF a L x I m t ch (ciObj m tk) (K (.list (signVs l)) (.attrs (netA (lnOf n c) (.ref fp) pb))))) :
    WPN C A (.ref I) QN (GF a L x I m t ch (ciObj m tk) (K (.list (signVs (c :: l))) (.attrs (netA n (.ref fp) pb)))) := by
  refine nx_call hr.hd (by walk_at "mem") (by walk_at "mem") (fRead_fn W) ?_
  refine sp_read (K := fun u v => GF a L x I m t ch (ciObj m tk) (K u v)) W (hr.in1.mono (by decide)) (((hR _ _).cons _).cons _ |>.cons _) (.tail (.tail (.tail (hk.re _ _)))) (by lia) (((hR _ _).cons _).cons _ |>.cons _) ?_
  exact ⟨sg c, rfl, by walk_at "mem", by walk_at "mem", fun _ => q, fun e => absurd e (sg_ne c)⟩
theorem nx_eof {L x I m dx fp fd rd cl ll pb tk : Addr} {n : Int} {t : Str} {ch : Option V} {K : AO → AO → AH} {u v : AO} {H₀ : AH} {QN : Option V → AH → Prop} (W : W3 C a) (hr : Room A 4) (hk : Hole2 ll u dx v H₀ K) (hR : ∀ u v, Rd a x dx fp fd rd cl ll pb (K u v))
    (q : QN none (GF a L x I m t ch ciEnd (K (.list []) (.attrs (netA n (.ref fp) pb))))) :
    WPN C A (.ref I) QN (GF a L x I m t ch (ciObj m tk) (K (.list []) (.attrs (netA n (.ref fp) pb)))) := by
  refine nx_call hr.hd (by walk_at "mem") (by walk_at "mem") (fRead_fn W) ?_
  refine sp_read0 W (hr.in1.mono (by decide)) (((hR _ _).cons _).cons _ |>.cons _) (.tail _ (.tail _ (.tail _ (hk.mem1 _ _)))) (.tail _ (.tail _ (.tail _ (hk.mem2 _ _)))) ?_
  exact ⟨"", rfl, by walk_at "mem", by walk_at "mem", fun e => absurd rfl e, fun _ => ⟨_, .head, q⟩⟩
end
end
noncomputable section
section
variable {C : Cfg} {a : Ad} {A : Around} {H H' : AH} {Q : V → AH → Prop}
theorem wps_mid {env : Env} {QF : Fl → AH → Prop} {st : Stmt} {rest : List Stmt} (I : AH → Prop) (h : WP1 C A env st (fun f H₁ => f = .next ∧ I H₁) H) (k : ∀ H₁, I H₁ → WPS C A env rest QF H₁) : WPS C A env (st :: rest) QF H :=
  wps_cons fun s R => wpAny_mono (h s R) (fun _ _ ⟨x, H₁, ⟨hx, q⟩, rx, R₁, kp⟩ => ⟨x, H₁, by subst hx; exact k H₁ q, rx, R₁, kp⟩) fun _ _ e => e
inductive RdB (tok cs' : List Nat) (n' : Int) (a : Ad) (L x I m : Addr) (K : AO → AO → AH) (fp pb : Addr) (H₁ : AH) : Prop
  | mk (ch : Option V) (e : H₁ = GF a L x I m (mkS tok) ch ciEnd (K (.list (signVs cs')) (.attrs (netA n' (.ref fp) pb)))) : RdB tok cs' n' a L x I m K fp pb H₁
inductive RdA (k : Nat) (tok cs' : List Nat) (n' : Int) (a : Ad) (L x I m : Addr) (tk : Nat) (K : AO → AO → AH) (fp pb : Addr) (i : Nat) (H₁ : AH) : Prop
  | mk (l : List Nat) (n2 : Int) (ch : Option V) (h1 : l.length + i ≤ k) (h2 : tGo l n2 = (tok, cs', n')) (e : H₁ = GF a L x I m "" ch (ciObj m tk) (K (.list (signVs l)) (.attrs (netA n2 (.ref fp) pb)))) : RdA k tok cs' n' a L x I m tk K fp pb i H₁
inductive RdQ (k : Nat) (tok cs' : List Nat) (n' : Int) (a : Ad) (L x I m : Addr) (tk : Nat) (K : AO → AO → AH) (fp pb : Addr) (j : Nat) (H₁ : AH) : Prop
  | mk (l2 t2 : List Nat) (n3 : Int) (ch : Option V) (h1 : l2.length + j ≤ k) (h2 : t2.length + l2.length ≤ k) (h3 : qGo t2 l2 n3 = (tok, cs', n')) (e : H₁ = GF a L x I m (mkS t2) ch (ciObj m tk) (K (.list (signVs l2)) (.attrs (netA n3 (.ref fp) pb)))) : RdQ k tok cs' n' a L x I m tk K fp pb j H₁
inductive RdM (k : Nat) (tok cs' : List Nat) (n' : Int) (a : Ad) (L x I m : Addr) (tk : Nat) (K : AO → AO → AH) (fp pb : Addr) (H₁ : AH) : Prop
  | mk (l2 t2 : List Nat) (n3 : Int) (h1 : l2.length ≤ k) (h2 : t2.length ≤ 1) (h3 : bGo t2 l2 n3 = (tok, cs', n')) (e : H₁ = GF a L x I m "" (some (.str (mkS t2))) (ciObj m tk) (K (.list (signVs l2)) (.attrs (netA n3 (.ref fp) pb)))) : RdM k tok cs' n' a L x I m tk K fp pb H₁
inductive RdW (k : Nat) (tok cs' : List Nat) (n' : Int) (a : Ad) (L x I m : Addr) (tk : Nat) (K : AO → AO → AH) (fp pb : Addr) (j : Nat) (H₁ : AH) : Prop
  | mk (l3 t3 : List Nat) (n4 : Int) (ch : Option V) (h1 : l3.length + j ≤ k) (h2 : t3.length + l3.length ≤ k + 1) (h3 : bGo t3 l3 n4 = (tok, cs', n')) (e : H₁ = GF a L x I m (mkS t3) ch (ciObj m tk) (K (.list (signVs l3)) (.attrs (netA n4 (.ref fp) pb)))) : RdW k tok cs' n' a L x I m tk K fp pb j H₁
theorem sp_get_rd {x dx fp fd rd cl ll pb : Addr} {cs : List Nat} {n : Int} {K : AO → AO → AH} (W : W3 C a) (hr : Room A 6) (hk : Hole2 ll (.list (signVs cs)) dx (.attrs (netA n (.ref fp) pb)) H K) (hz : cs.length ≤ 80000)
    (hR : ∀ u v, Rd a x dx fp fd rd cl ll pb (K u v)) (hp : ∀ u v, (pb, AO.list []) ∈ K u v) {tok cs' : List Nat} {n' : Int} (ht : tGo cs n = (tok, cs', n'))
    (q : Q (.str (mkS tok)) (K (.list (signVs cs')) (.attrs (netA n' (.ref fp) pb)))) :
    WPC C A (.ref a.fGet) [.ref x] Q H := by
  have G := W.G
  obtain ⟨cd, hF⟩ := W.fGet
  have e := hk.eq
  subst e
  refine call_ok ok_get G (fnAt_of_base hF) hr rfl rfl (by walk_at "init") rfl rfl fun L cd A' env hr' hD FE he => ?_
  have hA := hr'.hd
  have hx := (hR (.list (signVs cs)) (.attrs (netA n (.ref fp) pb))).x
  have hd := hk.mem2 (.list (signVs cs)) (.attrs (netA n (.ref fp) pb))
  have hpb := hp (.list (signVs cs)) (.attrs (netA n (.ref fp) pb))
  repeat walk_at "s"
  refine ga_pb W (.tail _ hx) (.tail _ hd) ?_
  refine tr_list (by walk_at "mem") (by simp) ⟨fun h => by simp at h, fun _ => ?_⟩
  repeat walk_at "s"
  refine ga_bound G W.cls.ok (.tail _ hx) (.tail _ hd) net_no1 W.cls.read W.cls.readT W.cls.readG W.cls.readS (by decide +kernel) ?_
  intro m
  repeat walk_at "s"
  refine c_iter2 (by walk_at "mem") ?_
  intro I tk
  repeat walk_at "s"
  have hR4 := hr'.mono (show 4 ≤ 5 by decide)
  refine wp1_ForE I (fun i H₁ => RdA cs.length tok cs' n' a L x I m tk K fp pb i H₁ ∨ RdB tok cs' n' a L x I m K fp pb H₁) (cs.length + 1) ?_ ?_ ?_
  · rintro i H₁ s (⟨l, n2, ch, _, _, rfl⟩ | ⟨ch, rfl⟩) R
    · exact ci_self rfl (.head _) R
    · exact ci_self rfl (.head _) R
  · repeat walk_at "s"
    exact ⟨rfl, .inl ⟨cs, n, none, Nat.le_refl _, ht, rfl⟩⟩
  · rintro i H₁ hi (⟨l, n2, ch, hli, hg, rfl⟩ | ⟨ch, rfl⟩)
    · cases l with
      | nil =>
        refine nx_eof W hR4 hk hR ?_
        simp only [tGo, Prod.mk.injEq] at hg
        obtain ⟨rfl, rfl, rfl⟩ := hg
        repeat walk_at "s"
        exact ⟨_, .drop (.drop (.drop (.refl _))), q⟩
      | cons c l =>
        refine nx_sign W hR4 hk hR (by simp at hli; lia) ⟨by simp at hli; lia, ?_⟩
        have hd2 := hk.mem2 (.list (signVs l)) (.attrs (netA (lnOf n2 c) (.ref fp) pb))
        have hx2 := (hR (.list (signVs l)) (.attrs (netA (lnOf n2 c) (.ref fp) pb))).x
        repeat walk_at "s"
        refine ga_ws W (.tail _ (.tail _ (.tail _ hx2))) (.tail _ (.tail _ (.tail _ hd2))) ?_
        refine op_in_str ?_
        rw [ws_in]
        repeat walk_at "s"
        refine ⟨fun hw => ?_, fun hw => ?_⟩
        · repeat walk_at "s"
          refine .inl ⟨l, lnOf n2 c, some (.str (sg c)), by simp at hli; lia, ?_, rfl⟩
          rw [tGo_ws hw] at hg
          exact hg
        · repeat walk_at "s"
          rw [sg_is c 34 q_sign]
          refine ⟨fun h34 => ?_, fun h34 => ?_⟩
          · have hc : c = 34 := by simpa using h34
            subst hc
            rw [tGo_q] at hg
            repeat walk_at "s"
            have e34 : lnOf n2 34 = n2 := rfl
            have hl8 : l.length ≤ 80000 := by simp at hli; lia
            rw [e34]
            refine wp1_ForE I (fun j H₁ => RdQ l.length tok cs' n' a L x I m tk K fp pb j H₁ ∨ RdB tok cs' n' a L x I m K fp pb H₁) (l.length + 1) ?_ ?_ ?_
            · rintro j H₁ s (⟨l2, t2, n3, ch, _, _, _, rfl⟩ | ⟨ch, rfl⟩) R
              · exact ci_self rfl (.head _) R
              · exact ci_self rfl (.head _) R
            · repeat walk_at "s"
              exact ⟨rfl, .inl ⟨l, [], n2, _, Nat.le_refl _, by simp, hg, by rw [mkS_nil]⟩⟩
            · rintro j H₁ hj (⟨l2, t2, n3, ch, hlj, htl, hq, rfl⟩ | ⟨ch, rfl⟩)
              · cases l2 with
                | nil =>
                  refine nx_eof W hR4 hk hR ?_
                  rw [show qGo t2 [] n3 = (t2, [], n3) from rfl] at hq
                  simp only [Prod.mk.injEq] at hq
                  obtain ⟨rfl, rfl, rfl⟩ := hq
                  repeat walk_at "s"
                  exact .inr ⟨_, rfl⟩
                | cons c l3 =>
                  refine nx_sign W hR4 hk hR (by simp at htl hli; lia) ⟨by simp at hlj; lia, ?_⟩
                  repeat walk_at "s"
                  rw [sg_is c 34 q_sign]
                  refine ⟨fun h34 => ?_, fun h34 => ?_⟩
                  · have hc : c = 34 := by simpa using h34
                    subst hc
                    rw [qGo_q] at hq
                    simp only [Prod.mk.injEq] at hq
                    obtain ⟨rfl, rfl, rfl⟩ := hq
                    repeat walk_at "s"
                    exact ⟨_, .drop (.drop (.drop (.refl _))), q⟩
                  · have hc : c ≠ 34 := by simpa using h34
                    repeat walk_at "s"
                    rw [sg_is c 92 b_sign]
                    refine ⟨fun h92 => ?_, fun h92 => ?_⟩
                    · have hc2 : c = 92 := by simpa using h92
                      subst hc2
                      have e92 : lnOf n3 92 = n3 := rfl
                      rw [e92]
                      have hd3 := hk.mem2 (.list (signVs l3)) (.attrs (netA n3 (.ref fp) pb))
                      have hx3 := (hR (.list (signVs l3)) (.attrs (netA n3 (.ref fp) pb))).x
                      repeat walk_at "s"
                      refine gm_read W (.tail _ (.tail _ (.tail _ hx3))) (.tail _ (.tail _ (.tail _ hd3))) ?_
                      repeat walk_at "s"
                      refine WPC.of_code (fRead_fn W _) ?_
                      cases l3 with
                      | nil =>
                        refine sp_read0 W (hr'.mono (by decide)) (((hR _ _).cons _).cons _ |>.cons _) (.tail _ (.tail _ (.tail _ (hk.mem1 _ _)))) (.tail _ (.tail _ (.tail _ hd3))) ?_
                        rw [qGo_e0] at hq
                        repeat walk_at "s"
                        rw [mkS_nil]
                        refine iop_add_str (by simp [Str.length] at htl ⊢; lia) ?_
                        rw [mkS_app, List.append_nil]
                        repeat walk_at "s"
                        exact .inl ⟨[], t2, n3, _, by simp at hlj ⊢; lia, by simp at htl ⊢; lia, hq, rfl⟩
                      | cons d ds =>
                        refine sp_read (K := fun u v => GF a L x I m (mkS t2) (some (.str (sg 92))) (ciObj m tk) (K u v)) W (hr'.mono (by decide)) (((hR _ _).cons _).cons _ |>.cons _) (.tail (.tail (.tail (hk.re _ _)))) (by simp at htl; lia) (((hR _ _).cons _).cons _ |>.cons _) ?_
                        rw [qGo_e] at hq
                        repeat walk_at "s"
                        refine iop_add_str (by simp [Str.length] at htl ⊢; lia) ?_
                        rw [mkS_app]
                        repeat walk_at "s"
                        exact .inl ⟨ds, t2 ++ [d], lnOf n3 d, _, by simp at hlj ⊢; lia, by simp at htl ⊢; lia, hq, rfl⟩
                    · have hc2 : c ≠ 92 := by simpa using h92
                      rw [qGo_b hc hc2] at hq
                      repeat walk_at "s"
                      refine iop_add_str (by simp [Str.length] at htl ⊢; lia) ?_
                      rw [mkS_app]
                      repeat walk_at "s"
                      exact .inl ⟨l3, t2 ++ [c], lnOf n3 c, _, by simp at hlj; lia, by simp at htl ⊢; lia, hq, rfl⟩
              · refine nx_end hA (.head _) ?_
                repeat walk_at "s"
                exact .inr ⟨_, rfl⟩
          · have hc : c ≠ 34 := by simpa using h34
            have hw' : isW c = false := by simpa using hw
            refine wps_mid (RdM l.length tok cs' n' a L x I m tk K fp pb) ?_ ?_
            · repeat walk_at "s"
              rw [sg_is c 92 b_sign]
              refine ⟨fun h92 => ?_, fun h92 => ?_⟩
              · have hc2 : c = 92 := by simpa using h92
                subst hc2
                have e92 : lnOf n2 92 = n2 := rfl
                rw [e92]
                have hd3 := hk.mem2 (.list (signVs l)) (.attrs (netA n2 (.ref fp) pb))
                have hx3 := (hR (.list (signVs l)) (.attrs (netA n2 (.ref fp) pb))).x
                repeat walk_at "s"
                refine gm_read W (.tail _ (.tail _ (.tail _ hx3))) (.tail _ (.tail _ (.tail _ hd3))) ?_
                repeat walk_at "s"
                refine WPC.of_code (fRead_fn W _) ?_
                cases l with
                | nil =>
                  refine sp_read0 W (hr'.mono (by decide)) (((hR _ _).cons _).cons _ |>.cons _) (.tail _ (.tail _ (.tail _ (hk.mem1 _ _)))) (.tail _ (.tail _ (.tail _ hd3))) ?_
                  rw [tGo_e0] at hg
                  repeat walk_at "s"
                  refine ⟨rfl, [], [], n2, Nat.le_refl _, by simp, ?_, by rw [mkS_nil]⟩
                  rw [← hg]; rfl
                | cons d ds =>
                  refine sp_read (K := fun u v => GF a L x I m "" (some (.str (sg 92))) (ciObj m tk) (K u v)) W (hr'.mono (by decide)) (((hR _ _).cons _).cons _ |>.cons _) (.tail (.tail (.tail (hk.re _ _)))) (by simp at hli; lia) (((hR _ _).cons _).cons _ |>.cons _) ?_
                  rw [tGo_e] at hg
                  repeat walk_at "s"
                  exact ⟨rfl, ds, [d], lnOf n2 d, by simp, by simp, hg, rfl⟩
              · have hc2 : c ≠ 92 := by simpa using h92
                rw [tGo_b hw' hc hc2] at hg
                repeat walk_at "s"
                exact ⟨rfl, l, [c], lnOf n2 c, Nat.le_refl _, by simp, hg, rfl⟩
            · rintro H₁ ⟨l2, t2, n3, hl2, ht2, hg2, rfl⟩
              repeat walk_at "s"
              rw [mkS_nil]
              refine iop_add_str (by simp [Str.length] at ht2 ⊢; lia) ?_
              rw [mkS_app, List.nil_append]
              repeat walk_at "s"
              refine wp1_ForE I (fun j H₁ => RdW l2.length tok cs' n' a L x I m tk K fp pb j H₁ ∨ RdB tok cs' n' a L x I m K fp pb H₁) (l2.length + 1) ?_ ?_ ?_
              · rintro j H₁ s (⟨l3, t3, n4, ch, _, _, _, rfl⟩ | ⟨ch, rfl⟩) R
                · exact ci_self rfl (.head _) R
                · exact ci_self rfl (.head _) R
              · repeat walk_at "s"
                exact ⟨rfl, .inl ⟨l2, t2, n3, _, Nat.le_refl _, by lia, hg2, rfl⟩⟩
              · rintro j H₁ hj (⟨l3, t3, n4, ch, hlj, htl, hq, rfl⟩ | ⟨ch, rfl⟩)
                · cases l3 with
                  | nil =>
                    refine nx_eof W hR4 hk hR ?_
                    rw [show bGo t3 [] n4 = (t3, [], n4) from rfl] at hq
                    simp only [Prod.mk.injEq] at hq
                    obtain ⟨rfl, rfl, rfl⟩ := hq
                    repeat walk_at "s"
                    exact .inr ⟨_, rfl⟩
                  | cons c l3 =>
                    refine nx_sign W hR4 hk hR (by simp at hlj hli; lia) ⟨by simp at hlj; lia, ?_⟩
                    have hd3 := hk.mem2 (.list (signVs l3)) (.attrs (netA (lnOf n4 c) (.ref fp) pb))
                    have hx3 := (hR (.list (signVs l3)) (.attrs (netA (lnOf n4 c) (.ref fp) pb))).x
                    repeat walk_at "s"
                    refine ga_ws W (.tail _ (.tail _ (.tail _ hx3))) (.tail _ (.tail _ (.tail _ hd3))) ?_
                    refine op_in_str ?_
                    rw [ws_in]
                    repeat walk_at "s"
                    refine ⟨fun hw2 => ?_, fun hw2 => ?_⟩
                    · rw [bGo_w hw2] at hq
                      simp only [Prod.mk.injEq] at hq
                      obtain ⟨rfl, rfl, rfl⟩ := hq
                      repeat walk_at "s"
                      exact ⟨_, .drop (.drop (.drop (.refl _))), q⟩
                    · have hw3 : isW c = false := by simpa using hw2
                      repeat walk_at "s"
                      rw [sg_is c 92 b_sign]
                      refine ⟨fun h92 => ?_, fun h92 => ?_⟩
                      · have hc2 : c = 92 := by simpa using h92
                        subst hc2
                        have e92 : lnOf n4 92 = n4 := rfl
                        rw [e92] at hd3 hx3 ⊢
                        repeat walk_at "s"
                        refine gm_read W (.tail _ (.tail _ (.tail _ hx3))) (.tail _ (.tail _ (.tail _ hd3))) ?_
                        repeat walk_at "s"
                        refine WPC.of_code (fRead_fn W _) ?_
                        cases l3 with
                        | nil =>
                          refine sp_read0 W (hr'.mono (by decide)) (((hR _ _).cons _).cons _ |>.cons _) (.tail _ (.tail _ (.tail _ (hk.mem1 _ _)))) (.tail _ (.tail _ (.tail _ hd3))) ?_
                          rw [bGo_e0] at hq
                          repeat walk_at "s"
                          rw [mkS_nil]
                          refine iop_add_str (by simp [Str.length] at htl hli ⊢; lia) ?_
                          rw [mkS_app, List.append_nil]
                          repeat walk_at "s"
                          exact .inl ⟨[], t3, n4, _, by simp at hlj ⊢; lia, by simp at htl ⊢; lia, hq, rfl⟩
                        | cons d ds =>
                          refine sp_read (K := fun u v => GF a L x I m (mkS t3) (some (.str (sg 92))) (ciObj m tk) (K u v)) W (hr'.mono (by decide)) (((hR _ _).cons _).cons _ |>.cons _) (.tail (.tail (.tail (hk.re _ _)))) (by simp at htl hli; lia) (((hR _ _).cons _).cons _ |>.cons _) ?_
                          rw [bGo_e] at hq
                          repeat walk_at "s"
                          refine iop_add_str (by simp [Str.length] at htl hli ⊢; lia) ?_
                          rw [mkS_app]
                          repeat walk_at "s"
                          exact .inl ⟨ds, t3 ++ [d], lnOf n4 d, _, by simp at hlj ⊢; lia, by simp at htl ⊢; lia, hq, rfl⟩
                      · have hc2 : c ≠ 92 := by simpa using h92
                        rw [bGo_b hw3 hc2] at hq
                        repeat walk_at "s"
                        refine iop_add_str (by simp [Str.length] at htl hli ⊢; lia) ?_
                        rw [mkS_app]
                        repeat walk_at "s"
                        exact .inl ⟨l3, t3 ++ [c], lnOf n4 c, _, by simp at hlj; lia, by simp at htl ⊢; lia, hq, rfl⟩
                · refine nx_end hA (.head _) ?_
                  repeat walk_at "s"
                  exact .inr ⟨_, rfl⟩
    · refine nx_end hA (.head _) ?_
      repeat walk_at "s"
      exact ⟨_, .drop (.drop (.drop (.refl _))), q⟩
end
end
noncomputable section
noncomputable def F_lam0 : FnA := lfn "_law_reader.<locals>.<lambda>" [] (nth (cbody (nth PW.main.body 18)) 0)
theorem lamQual : F_reader.qual ++ ".<locals>." ++ "<lambda>" = ("_law_reader.<locals>.<lambda>" : Str) := by decide +kernel
section
variable {C : Cfg} {a : Ad} {A : Around} {H H' : AH} {Q : V → AH → Prop}
theorem sp_reader {ll : Addr} (W : W3 C a) (hr : Room A 5) (hT : (a.pReader, AO.tab "_law_reader.<locals>.<lambda>") ∈ H)
    (q : ∀ x dx pb fd fp rd cl, Q (.ref x) ((x, .obj (instObj a.cls dx)) :: (dx, .attrs (netA 1 (.ref fp) pb)) :: (pb, .list []) :: (fd, .attrs [("read", .ref rd)]) :: (fp, .fobj fd) :: (rd, .fn (F_lam [("left", cl)])) :: (cl, .cell (some (.ref ll))) :: H)) :
    WPC C A (.ref a.reader) [.ref ll] Q H := by
  have G := W.G
  obtain ⟨c, hF, hC⟩ := W.reader
  refine call_okC ok_reader G (fun s R => hF.keeps R.keep) hr rfl rfl rfl (vals := [none]) rfl (VOk.get (.rest rfl)) fun L cs A' env hcs hr' FE he => ?_
  · obtain ⟨c1, rfl⟩ := cells1 hcs
    refine ⟨_, .param .head .nil, ?_⟩
    have hA := hr'.hd
    simp only [List.cons_append, List.nil_append]
    repeat walk_at "s"
    refine wp_LambdaF F_lam0 (q := "_law_reader.<locals>.<lambda>") (cl := []) G (by rw [he]; rfl) hC (by rw [he]; rfl) (by walk_at "mem") (closure_of (fs := []) (cs := []) FE (by decide +kernel) rfl (by simp)) ?_ (by rw [he]; exact lamQual)
    intro fp
    repeat walk_at "s"
    refine wp1_Assign ?_
    refine wp_LambdaF (F_lam [("left", c1)]) (q := "_law_reader.<locals>.<lambda>") G (by rw [he]; rfl) hC (by rw [he]; rfl) (by walk_at "mem") (closure_of (fs := ["left"]) (cs := [c1]) FE (by decide +kernel) rfl (by simp)) ?_ (by rw [he]; exact lamQual)
    intro rd
    refine asg_Attribute ?_
    repeat walk_at "s"
    refine sa_fn fs_read (by walk_at "mem") ?_
    intro d
    refine ⟨_, by walk_at "upd", ?_⟩
    repeat walk_at "s"
    refine sp_net W (hr'.mono (by decide)) ?_
    intro x dx pb
    refine ⟨(x, .obj (instObj a.cls dx)) :: (dx, .attrs (netA 1 (.ref fp) pb)) :: (pb, .list []) :: (d, .attrs [("read", .ref rd)]) :: (fp, .fobj d) :: (rd, .fn (F_lam [("left", c1)])) :: (c1, .cell (some (.ref ll))) :: H, ?_, q _ _ _ _ _ _ _⟩
    refine .pick .head (.pick .head (.pick .head (.pick .head ?_)))
    refine .pick (.tail .head) (.pick .head (.pick .head (by walk_at "sub")))
theorem empty_len : ("" : Str).length = 0 := by decide +kernel
noncomputable def wz (n : Int) (ls : List Nat) : List Nat := (if n < 0 then 34 else 10) :: ls
theorem strs1 (ls : List Nat) : ls.map (fun k => V.str (mkS [k])) = ((ls.map fun c => [c]).map mkS).map V.str := by simp
theorem sp_word2 {n : Int} {v : V} {ls : List Nat} (W : W3 C a) (hr : Room A 2) (hls : ∀ k ∈ ls, k < 0x110000) (hz : ls.length ≤ 1000)
    (hp : ∀ {A' : Around} {py : Pos} {y : Str} {H' : AH} {QI : Cfg → (Nat → AH → Option V → Prop) → AH → Prop}, A'.handled = none → (∀ a x, (a, x) ∈ H → (a, x) ∈ H') → (∀ Item, (∀ (i : Nat) x H₁, (∀ a x, (a, x) ∈ H → (a, x) ∈ H₁) → (natVs ls)[i]? = some x → Item i H₁ (some x)) → (∀ H₁, (∀ a x, (a, x) ∈ H → (a, x) ∈ H₁) → Item ls.length H₁ none) → QI C Item H') → PI C A' (.Name y py) v QI H')
    (q : Q (.str (mkS (wz n ls))) H) : WPC C A (.ref a.word) [.int n, v] Q H := by
  have G := W.G
  obtain ⟨cd, hF⟩ := W.word
  refine call_ok ok_word G (fnAt_of_base hF) hr rfl rfl (by walk_at "init") rfl rfl fun L cd A' env hr' hD FE he => ?_
  have hA := hr'.hd
  refine wps_cons (wp1_Return (wp_BinOp (WP.pin (.str (mkS [if n < 0 then 34 else 10])) ?_ ?_)))
  · repeat walk_at "s"
    refine ⟨fun h => ?_, fun h => ?_⟩
    · have h' : n < 0 := of_decide_eq_true h
      repeat walk_at "s"
      exact ⟨by rw [if_pos h']; rfl, .refl _⟩
    · have h' : ¬ n < 0 := of_decide_eq_false h
      repeat walk_at "s"
      exact ⟨by rw [if_neg h']; rfl, .refl _⟩
  repeat walk_at "s"
  refine wpm_join ?_
  repeat walk_at "s"
  refine wp_LC (ln' := ["letter"]) (gn' := ["chr"]) (fs := []) (cs := []) FE (by walk_at "cp") (by decide +kernel) (by simp) ?_
  refine wpi_value ?_
  repeat walk_at "s"
  refine hp hA (fun _ _ h => .tail _ h) fun Item hI hN b c cenv FE => ?_
  refine turns_map (ys := ls.map fun k => .str (mkS [k])) (xs := natVs ls) FE (by simp) (by simp; lia) (fun i x o acc h => hI i x _ (fun _ _ h => .tail _ (.tail _ (.tail _ h))) h) (fun o acc => by simpa using hN _ (fun _ _ h => .tail _ (.tail _ (.tail _ h)))) (fun i x v acc hx hv => ?_) fun o => ?_
  · simp only [List.getElem?_map, Option.map_eq_some_iff] at hx hv
    obtain ⟨k, hk, rfl⟩ := hx
    rw [hk] at hv
    simp only [Option.some.injEq, exists_eq_left'] at hv
    subst hv
    have hk2 := hls k (List.mem_of_getElem? hk)
    repeat walk_at "s"
    refine c_chr (by lia) (by lia) ?_
    rw [Int.toNat_natCast]
    exact ⟨rfl, .refl _⟩
  · refine ⟨_, _, .head, ?_⟩
    rw [strs1]
    repeat walk_at "s"
    refine c_join (by walk_at "mem") ?_ ?_
    · rw [sum_len, flat_one, empty_len, Nat.mul_zero]; simp; lia
    · rw [tjoin_mkS, flat_one]
      refine op_add_str (by rw [mkS_len, mkS_len]; simp; lia) ?_
      rw [mkS_app]
      repeat walk_at "s"
      exact ⟨H, by walk_at "sub", q⟩
end
end
noncomputable section
noncomputable abbrev wordL (n : Nat) : List Nat := (apL n).map UInt8.toNat
noncomputable def ownL (m : Nat) : Nat → List Nat
  | 0 => []
  | p + 1 => ownL (m / 16) p ++ [65 + m % 16]
theorem ownL_range (m p : Nat) : ((List.range p).map fun k => 65 + m / 2 ^ (4 * k) % 16).reverse = ownL m p := by
  induction p generalizing m with
  | zero => rfl
  | succ p ih =>
    rw [List.range_succ_eq_map, List.map_cons, List.reverse_cons, ownL, ← ih]
    simp only [List.map_map, Nat.mul_zero, Nat.pow_zero, Nat.div_one]
    congr 2
    refine List.map_congr_left fun k _ => ?_
    show 65 + m / 2 ^ (4 * (k + 1)) % 16 = 65 + m / 16 / 2 ^ (4 * k) % 16
    rw [Nat.div_div_eq_div_mul, show (16 : Nat) = 2 ^ 4 from rfl, ← Nat.pow_add, show 4 * (k + 1) = 4 + 4 * k by lia]
theorem ownL_eq (m p : Nat) (h1 : m < 16 ^ p) (h2 : p ≠ 0 → 16 ^ (p - 1) ≤ m) : ownL m p = wordL m := by
  induction p generalizing m with
  | zero =>
    have : m = 0 := by simpa using h1
    subst this
    simp [ownL, wordL, apL_zero]
  | succ p ih =>
    have hm := h2 (by simp)
    rw [Nat.add_sub_cancel] at hm
    have hpos : 0 < 16 ^ p := Nat.pow_pos (by decide)
    have h0 : m ≠ 0 := by lia
    rw [ownL, wordL, apL_pos h0, List.map_append, ih (m / 16) (Nat.div_lt_of_lt_mul (by rw [Nat.mul_comm, ← Nat.pow_succ]; exact h1)) (fun hp => ?_)]
    · have : (UInt8.ofNat (65 + m % 16)).toNat = 65 + m % 16 := by rw [UInt8.toNat_ofNat']; exact Nat.mod_eq_of_lt (by have := Nat.mod_lt m (show 0 < 16 by decide); lia)
      rw [List.map_cons, List.map_nil, this]
    · rw [Nat.le_div_iff_mul_le (by decide), ← Nat.pow_succ, Nat.succ_eq_add_one, Nat.sub_add_cancel (by lia)]
      exact hm
theorem own_word (n : Nat) : ownL n ((Builtin.Int.intBits (n : Int) + 3) / 4) = wordL n := by
  have hb : Builtin.Int.intBits (n : Int) = if n = 0 then 0 else Nat.log2 n + 1 := by
    unfold Builtin.Int.intBits
    simp
  by_cases h0 : n = 0
  · subst h0; rw [hb]; simp [ownL, wordL, apL_zero]
  rw [if_neg h0] at hb
  rw [hb]
  have l1 := Nat.log2_self_le h0
  have l2 := Nat.lt_log2_self (n := n)
  refine ownL_eq _ _ ?_ fun hp => ?_
  · rw [show (16 : Nat) = 2 ^ 4 from rfl, ← Nat.pow_mul]
    exact Nat.lt_of_lt_of_le l2 (Nat.pow_le_pow_right (by decide) (by lia))
  · rw [show (16 : Nat) = 2 ^ 4 from rfl, ← Nat.pow_mul]
    exact Nat.le_trans (Nat.pow_le_pow_right (by decide) (by rw [show n.log2 + 1 + 3 = n.log2 + 4 from rfl, Nat.add_div_right _ (by decide)]; exact Nat.mul_div_le _ 4)) l1
section
variable {C : Cfg} {a : Ad} {A : Around} {H H' : AH} {Q : V → AH → Prop}
theorem sp_wordB {n : Int} {b : Array UInt8} (W : W3 C a) (hr : Room A 2) (hz : b.size ≤ 1000) (q : Q (.str (mkS (wz n (b.toList.map UInt8.toNat)))) H) : WPC C A (.ref a.word) [.int n, .bytes b] Q H := by
  refine sp_word2 (ls := b.toList.map UInt8.toNat) W hr (fun k hk => ?_) (by simp; exact hz) (fun hA hH h => pi_bytes hA (h _ (fun i x H₁ _ e => ?_) fun H₁ _ => ?_)) q
  · obtain ⟨u, _, rfl⟩ := List.mem_map.mp hk
    have := UInt8.toNat_lt u; lia
  · simp only [List.getElem?_map, Option.map_eq_some_iff, Array.getElem?_toList] at e
    obtain ⟨_, ⟨u, hu, rfl⟩, rfl⟩ := e
    have hi := (Array.getElem?_eq_some_iff.mp hu)
    obtain ⟨hi, hu⟩ := hi
    simp [byteItem, fnItem, hi, hu]
  · simp [byteItem, fnItem]
theorem sp_wordL {n : Int} {l : Addr} {ls : List Nat} (W : W3 C a) (hr : Room A 2) (hls : ∀ k ∈ ls, k < 0x110000) (hz : ls.length ≤ 1000) (hl : (l, AO.list (natVs ls)) ∈ H) (q : Q (.str (mkS (wz n ls))) H) : WPC C A (.ref a.word) [.int n, .ref l] Q H :=
  sp_word2 (ls := ls) W hr hls hz (fun hA hH h => pi_list hA (hH _ _ hl) (h _ (fun i x H₁ hh e => listItem_some (hh _ _ hl) e) fun H₁ hh => listItem_none (hh _ _ hl) (by simp))) q
theorem apL_len : ∀ (k n : Nat), n < 16 ^ k → (apL n).length ≤ k
  | 0, n, h => by
    have : n = 0 := by simpa using h
    subst this; rw [apL_zero]; simp
  | k + 1, n, h => by
    by_cases h0 : n = 0
    · subst h0; rw [apL_zero]; simp
    · rw [apL_pos h0, List.length_append]
      have := apL_len k (n / 16) (by rw [Nat.pow_succ] at h; lia)
      simp; lia
theorem sp_own {n : Int} (W : W3 C a) (hr : Room A 3) (hn : n.natAbs < 16 ^ 100) (q : Q (.str (mkS (wz n (wordL n.natAbs)))) H) : WPC C A (.ref a.own) [.int n] Q H := by
  have G := W.G
  obtain ⟨cd, hF⟩ := W.own
  refine call_okC ok_own G (fun s R => hF.keeps R.keep) hr rfl rfl rfl (vals := [none]) rfl (VOk.get (.rest rfl)) fun L cs A' env hcs hr' FE he => ?_
  obtain ⟨c1, rfl⟩ := cells1 hcs
  refine ⟨_, .param .head .nil, ?_⟩
  have hA := hr'.hd
  have hbits : Builtin.Int.intBits (n.natAbs : Int) ≤ 400 := intBits_le (by rw [Int.natAbs_natCast]; exact Nat.lt_of_lt_of_le hn (by decide))
  simp only [List.cons_append, List.nil_append]
  repeat walk_at "s"
  refine c_abs ?_
  repeat walk_at "s"
  refine wpm_bitlen ?_
  repeat walk_at "s"
  refine c_bitlen ?_
  repeat walk_at "s"
  refine op_floordiv_int (by decide) (PyProof.noPylong_small (by decide)) ?_
  have e1 : ((Builtin.Int.intBits (n.natAbs : Int) : Nat) : Int) + 3 = ((Builtin.Int.intBits (n.natAbs : Int) + 3 : Nat) : Int) := by push_cast; rfl
  rw [e1, show ((Builtin.Int.intBits (n.natAbs : Int) + 3 : Nat) : Int).fdiv 4 = (((Builtin.Int.intBits (n.natAbs : Int) + 3) / 4 : Nat) : Int) from fdiv_nat _ 4]
  generalize hp : (Builtin.Int.intBits (n.natAbs : Int) + 3) / 4 = p
  have hp1 : p ≤ 1000 := by lia
  repeat walk_at "s"
  refine c_range1 ?_
  intro r t u v
  repeat walk_at "s"
  refine wp_LC (ln' := ["k"]) (gn' := ["abs"]) (fs := ["number"]) (cs := [c1]) FE (by walk_at "cp") (by decide +kernel) (by simp) ?_
  refine wpi_value ?_
  repeat walk_at "s"
  refine pi_range (a := 0) (b := (p : Int)) hA (by decide) (by rw [Int.natAbs_natCast]; lia) (by walk_at "mem") ?_
  have FE0 := FE
  intro b c cenv FE
  replace FE : FEnv cenv c ["k"] [("number", c1)] ["abs"] := FE
  refine turns_map (xs := natVs (List.range p)) (ys := natVs ((List.range p).map fun k => 65 + n.natAbs / 2 ^ (4 * k) % 16)) FE (by simp) (by simp; lia) (fun i x o acc h => ?_) (fun o acc => ?_) (fun i x v acc hx hv => ?_) fun o => ?_
  · simp only [List.getElem?_map, Option.map_eq_some_iff] at h
    obtain ⟨k, hk, rfl⟩ := h
    obtain ⟨hk1, rfl⟩ := List.getElem?_eq_some_iff.mp hk
    rw [List.length_range] at hk1
    rw [List.getElem_range]
    exact range_some (by lia)
  · refine range_none ?_
    simp
  · simp only [List.getElem?_map, Option.map_eq_some_iff] at hx hv
    obtain ⟨k, hk, rfl⟩ := hx
    rw [hk] at hv
    simp only [Option.some.injEq, exists_eq_left'] at hv
    subst hv
    have hk1 : k < p := by have := List.mem_of_getElem? hk; simpa using this
    repeat walk_at "s"
    refine c_abs ?_
    repeat walk_at "s"
    refine op_mul_int (mulOk (k := 10) (l := 20) (by decide) (by rw [Int.natAbs_natCast]; lia) (by decide)) ?_
    refine op_rshift_int (by lia) ?_
    repeat walk_at "s"
    refine op_mod_int (by decide) ?_
    have e2 : ((4 : Int) * (k : Int)).toNat = 4 * k := by lia
    have e3 : (2 : Int) ^ (4 * k) = ((2 ^ (4 * k) : Nat) : Int) := by push_cast; rfl
    rw [e2, e3, fdiv_nat, show ((n.natAbs / 2 ^ (4 * k) : Nat) : Int).fmod 16 = ((n.natAbs / 2 ^ (4 * k) % 16 : Nat) : Int) from fmod_nat _ 16]
    repeat walk_at "s"
    exact ⟨by push_cast; rfl, .refl _⟩
  · refine ⟨_, _, .head, ?_⟩
    have FE := FE0
    repeat walk_at "s"
    refine gs_list (by walk_at "mem") (by decide) (by simp; lia) ?_
    intro b2
    rw [pySlice_rev, ← List.map_reverse, ownL_range]
    repeat walk_at "s"
    rw [← hp, own_word]
    refine sp_wordL W hr' (fun k hk => ?_) (by have := apL_len 100 n.natAbs hn; simp; lia) (.head _) ?_
    · obtain ⟨u, _, rfl⟩ := List.mem_map.mp hk
      have := UInt8.toNat_lt u; lia
    repeat walk_at "s"
    exact ⟨H, by walk_at "sub", q⟩
end
end
noncomputable section
theorem d2i_word (m : Nat) : d2i 4 (((wordL m).map fun (c : Nat) => (c : Int) - 65).reverse) = (m : Int) := by
  induction m using Nat.strongRecOn with
  | _ m ih =>
    by_cases h : m = 0
    · subst h; simp [wordL, apL_zero, d2i]
    · have hm : m % 16 < 16 := Nat.mod_lt _ (by decide)
      have hu : (UInt8.ofNat (65 + m % 16)).toNat = 65 + m % 16 := by rw [UInt8.toNat_ofNat']; exact Nat.mod_eq_of_lt (by lia)
      rw [wordL, apL_pos h, List.map_append, List.map_append, List.reverse_append, List.map_cons, List.map_nil, hu]
      simp only [List.map_cons, List.map_nil, List.reverse_cons, List.reverse_nil, List.nil_append, List.cons_append, d2i]
      rw [ih (m / 16) (by lia)]
      lia
theorem wz_len (n : Int) (ls : List Nat) : (wz n ls).length = ls.length + 1 := rfl
theorem wordL_lt {m c : Nat} (h : c ∈ wordL m) : c < 256 := by
  obtain ⟨u, _, rfl⟩ := List.mem_map.mp h
  exact UInt8.toNat_lt u
theorem sign_some {l : List Nat} {i k : Nat} {H : AH} (h : l[i]? = some k) : signItem (mkS l) i H (some (.str (sg k))) := by
  obtain ⟨hi, rfl⟩ := List.getElem?_eq_some_iff.mp h
  simp [signItem, fnItem, mkS_len, hi]
theorem sign_none {l : List Nat} {H : AH} : signItem (mkS l) l.length H none := by
  simp [signItem, fnItem, mkS_len]
section
variable {C : Cfg} {a : Ad} {A : Around} {H H' : AH} {Q : V → AH → Prop}
theorem sp_number {n : Int} (W : W3 C a) (hr : Room A 21) (hn : n.natAbs < 16 ^ 100) (hT : (a.pD2i, AO.tab "_digits2int.<locals>.inner") ∈ H) (q : Q (.int n) H) : WPC C A (.ref a.number) [.str (mkS (wz n (wordL n.natAbs)))] Q H := by
  have G := W.G
  obtain ⟨cd, hF⟩ := W.number
  have hlen : (wordL n.natAbs).length ≤ 100 := by have := apL_len 100 n.natAbs hn; simpa using this
  have hd2 := d2i_word n.natAbs
  have hlt : ∀ c ∈ wordL n.natAbs, c < 256 := fun c h => wordL_lt h
  generalize wordL n.natAbs = ls at hlen hd2 hlt ⊢
  generalize hw : wz n ls = w
  have hwl : w.length ≤ 101 := by rw [← hw, wz_len]; lia
  refine call_ok ok_number G (fnAt_of_base hF) hr rfl rfl (by walk_at "init") rfl rfl fun L cd A' env hr' hD FE he => ?_
  have hA := hr'.hd
  repeat walk_at "s"
  refine wp_LC (ln' := ["letter"]) (gn' := ["ord"]) (fs := []) (cs := []) FE (by walk_at "cp") (by decide +kernel) (by simp) ?_
  refine wpi_value ?_
  repeat walk_at "s"
  refine gs_str_drop (p := 1) (by rw [← hw, wz_len]; lia) (by lia) ?_
  have ed : w.drop 1 = ls := by rw [← hw]; rfl
  rw [ed]
  refine pi_str hA ?_
  have FE0 := FE
  intro b c cenv FE
  replace FE : FEnv cenv c ["letter"] [] ["ord"] := FE
  refine turns_map (xs := signVs ls) (ys := ls.map fun (c : Nat) => V.int ((c : Int) - 65)) FE (by simp) (by simp; lia) (fun i x o acc h => ?_) (fun o acc => ?_) (fun i x v acc hx hv => ?_) fun o => ?_
  · simp only [List.getElem?_map, Option.map_eq_some_iff] at h
    obtain ⟨k, hk, rfl⟩ := h
    exact sign_some hk
  · simpa using sign_none (l := ls)
  · simp only [List.getElem?_map, Option.map_eq_some_iff] at hx hv
    obtain ⟨k, hk, rfl⟩ := hx
    obtain ⟨_, hk', rfl⟩ := hv
    rw [hk] at hk'; cases hk'
    repeat walk_at "s"
    refine c_ord ?_
    repeat walk_at "s"
    exact ⟨rfl, .refl _⟩
  · refine ⟨_, _, .head, ?_⟩
    have FE := FE0
    repeat walk_at "s"
    refine gs_list (by walk_at "mem") (by decide) (by simp; lia) ?_
    intro b2
    have el : (ls.map fun (c : Nat) => V.int ((c : Int) - 65)).reverse = ((ls.map fun (c : Nat) => (c : Int) - 65).reverse).map V.int := by simp
    rw [pySlice_rev, el]
    repeat walk_at "s"
    refine sp_digits2int (B := 10) (ds := (ls.map fun (c : Nat) => (c : Int) - 65).reverse) W hr' (by decide) (fun d hd => ?_) (by simp; lia) (by simp; lia) (by walk_at "mem") (by walk_at "mem") ?_
    · obtain ⟨c, hc, rfl⟩ := List.mem_map.mp (List.mem_reverse.mp hd)
      have := hlt c hc
      lia
    rw [hd2]
    repeat walk_at "s"
    refine gi_str (c := if n < 0 then 34 else 10) (by decide) (by rw [mkS_len]; lia) (by rw [← hw]; rfl) ?_
    repeat walk_at "s"
    rw [sg_is _ 34 q_sign]
    refine ⟨fun h => ?_, fun h => ?_⟩
    · have h' : -(n.natAbs : Int) = n := by
        by_cases hn0 : n < 0
        · lia
        · rw [if_neg hn0] at h; simp at h
      repeat walk_at "s"
      exact ⟨H, by walk_at "sub", by show Q (.int _) H; rw [h']; exact q⟩
    · have h' : (n.natAbs : Int) = n := by
        by_cases hn0 : n < 0
        · rw [if_pos hn0] at h; simp at h
        · lia
      repeat walk_at "s"
      exact ⟨H, by walk_at "sub", by show Q (.int _) H; rw [h']; exact q⟩
end
end
noncomputable section
theorem minc (a b : Nat) : min (a : Int) (b : Int) = ((min a b : Nat) : Int) := by omega
structure SzOk (ss : List Nat) : Prop where
  ne : ss ≠ []
  le : ∀ s ∈ ss, 1 ≤ s ∧ s ≤ 5
  up : ss.Pairwise (· ≤ ·)
theorem SzOk.one {s : Nat} (h : 1 ≤ s) (h5 : s ≤ 5) : SzOk [s] := ⟨by simp, by simpa using ⟨h, h5⟩, by simp⟩
theorem SzOk.snoc {ss : List Nat} {l s : Nat} (h : SzOk ss) (hl : ss.getLast? = some l) (h1 : l ≤ s) (h5 : s ≤ 5) : SzOk (ss ++ [s]) := by
  refine ⟨by simp, fun x hx => ?_, ?_⟩
  · rcases List.mem_append.mp hx with hx | hx
    · exact h.le x hx
    · rw [List.mem_singleton.mp hx]
      have := (h.le l (List.mem_of_getLast? hl)).1
      lia
  · rw [List.pairwise_append]
    refine ⟨h.up, by simp, fun x hx y hy => ?_⟩
    rw [List.mem_singleton.mp hy]
    refine Nat.le_trans ?_ h1
    obtain ⟨ys, rfl⟩ := List.getLast?_eq_some_iff.mp hl
    rcases List.mem_append.mp hx with hx | hx
    · exact (List.pairwise_append.mp h.up).2.2 x hx l (by simp)
    · rw [List.mem_singleton.mp hx]; exact Nat.le_refl _
theorem SzOk.sum {ss : List Nat} (h : SzOk ss) (j : Nat) : (ss.take j).sum ≤ 5 * j := by
  have : ∀ (l : List Nat), (∀ s ∈ l, s ≤ 5) → l.sum ≤ 5 * l.length := by
    intro l hl
    induction l with
    | nil => simp
    | cons x l ih =>
      have h1 := hl x (.head _)
      have h2 := ih fun s hs => hl s (.tail _ hs)
      simp; lia
  have h1 := this (ss.take j) fun s hs => (h.le s (List.mem_of_mem_take hs)).2
  rw [List.length_take] at h1
  lia
structure BlOk (bl : List (List Nat)) : Prop where
  ne : bl ≠ []
  few : bl.length ≤ 4
  size : ∀ b ∈ bl, 1 ≤ b.length ∧ b.length ≤ 5
  up : bl.Pairwise (fun b c => b.length ≤ c.length)
  lt : ∀ b ∈ bl, ∀ x ∈ b, x < 1000
noncomputable def cut (d : List Nat) (ss : List Nat) (j : Nat) : List Nat := (d.drop (ss.take j).sum).take ((ss.take (j + 1)).sum - (ss.take j).sum)
noncomputable def blocks (d ss : List Nat) : List (List Nat) := (List.range ss.length).map (cut d ss)
theorem sum_take_succ {ss : List Nat} {j : Nat} (h : j < ss.length) : (ss.take (j + 1)).sum = (ss.take j).sum + ss[j] := by
  rw [List.take_succ_eq_append_getElem h, List.sum_append]; simp
theorem cut_len {d ss : List Nat} (h : SzOk ss) (h4 : ss.length ≤ 4) (hd : d.length = 20) {j : Nat} (hj : j < ss.length) : (cut d ss j).length = ss[j] := by
  have h1 := h.sum (j + 1)
  have h2 := sum_take_succ hj
  rw [cut, List.length_take, List.length_drop, hd, h2, Nat.add_sub_cancel_left]
  exact Nat.min_eq_left (Nat.le_sub_of_add_le (by rw [Nat.add_comm, ← h2]; exact Nat.le_trans h1 (Nat.mul_le_mul_left 5 (Nat.le_trans hj h4))))
theorem blocks_ok {d ss : List Nat} (h : SzOk ss) (h4 : ss.length ≤ 4) (hd : d.length = 20) (hlt : ∀ x ∈ d, x < 1000) : BlOk (blocks d ss) := by
  have hne : 0 < ss.length := List.length_pos_iff.mpr h.ne
  refine ⟨?_, by simpa [blocks] using h4, fun b hb => ?_, ?_, fun b hb x hx => ?_⟩
  · rw [← List.length_pos_iff]; simpa [blocks] using hne
  · obtain ⟨j, hj, rfl⟩ := List.mem_map.mp hb
    have hj' : j < ss.length := by simpa using hj
    rw [cut_len h h4 hd hj']
    exact h.le _ (List.getElem_mem hj')
  · rw [List.pairwise_iff_getElem]
    intro i j hi hj hij
    have hi' : i < ss.length := by simpa [blocks] using hi
    have hj' : j < ss.length := by simpa [blocks] using hj
    simp only [blocks, List.getElem_map, List.getElem_range]
    rw [cut_len h h4 hd hi', cut_len h h4 hd hj']
    exact List.pairwise_iff_getElem.mp h.up i j hi' hj' hij
  · obtain ⟨j, hj, rfl⟩ := List.mem_map.mp hb
    exact hlt x (List.mem_of_mem_drop (List.mem_of_mem_take hx))
theorem nat_get {ds : List Nat} {i : Nat} (h : i < ds.length) : (natVs ds)[i]? = some (.int (ds[i] : Nat)) := by
  rw [List.getElem?_map, List.getElem?_eq_getElem h]; rfl
theorem slice_nat (cs : List Nat) (p q : Nat) (h : p ≤ q) : pySlice (natVs cs) (some (p : Int)) (some (q : Int)) none = natVs ((cs.take q).drop p) :=
  (pySlice_mid _ p q).trans (by simp)
theorem pow_nat (a k : Nat) : ((a : Int) ^ (((k : Nat) : Int)).toNat) = ((a ^ k : Nat) : Int) := by rw [Int.toNat_natCast]; push_cast; rfl
section
variable {C : Cfg} {a : Ad} {A : Around} {H H' : AH} {Q : V → AH → Prop}
inductive BkI (cs : List Nat) (k : Nat) (sl cl c1 c2 c3 sz L : Addr) (n : Int) (H : AH) (vs : List V) (i : Nat) (H₁ : AH) : Prop
  | mk (ss : List Nat) (o : Option V) (h : SzOk ss) (h1 : ss.length = i + 1) (h2 : i ≤ k) (e : H₁ = (sl, .list vs) :: (sz, .list (natVs ss)) :: (cl, .list (natVs cs)) :: (c1, .cell none) :: (c2, .cell (some (.ref sz))) :: (c3, .cell (some (.int n))) :: (L, .ns ["cells", "cell"] [some (.ref cl), o]) :: H) : BkI cs k sl cl c1 c2 c3 sz L n H vs i H₁
theorem sp_blocks {n : Nat} (W : W3 C a) (hr : Room A 3) (hn : n < 10 ^ 72)
    (q : ∀ bl rs r, BlOk bl → rs.length = bl.length → Q (.ref r) ((r, .list (rs.map V.ref)) :: (nls rs (bl.map natVs) ++ H))) : WPC C A (.ref a.blocks) [.int n] Q H := by
  have G := W.G
  obtain ⟨cd, hF⟩ := W.blocks
  refine call_okC ok_blocks G (fun s R => hF.keeps R.keep) hr rfl rfl rfl (vals := [none, none]) rfl (VOk.get (.rest rfl)) fun L cs A' env hcs hr' FE he => ?_
  obtain ⟨c1, c2, c3, rfl⟩ := cells3 hcs
  refine ⟨_, .other (.other (.param .head .nil)), ?_⟩
  have hA := hr'.hd
  simp only [List.cons_append, List.nil_append]
  have FE0 := FE
  refine wps_cons (wp1_LC (ln' := ["k"]) (gn' := []) (fs := ["number"]) (cs := [c3]) FE (by walk_at "cp") (by decide +kernel) (by simp) (by walk_at "mem") (by decide +kernel) ?_)
  refine wpi_Call ?_
  repeat walk_at "s"
  refine ci_range1 hA (by decide) ?_
  intro cl c cenv FE
  replace FE : FEnv cenv c ["k"] [("number", c3)] [] := FE
  refine turns_mapL (l := List.range 6) (g := fun k => .int (k : Nat)) (f := fun k => .int (n / 100 ^ k % 100 : Nat)) FE (by simp) (fun i k o acc h => range_item h) (fun o acc => range_end) (fun k hk acc => ?_) fun o => ?_
  · have hk6 : k < 6 := by simpa using hk
    repeat walk_at "s"
    refine op_pow_int (by lia) (by have : Builtin.Int.intBits 100 = 7 := by decide +kernel
                                   rw [this]; lia) ?_
    rw [show ((100 : Int) ^ ((k : Nat) : Int).toNat) = ((100 ^ k : Nat) : Int) from pow_nat 100 k]
    refine op_floordiv_int (by have := Nat.pow_pos (n := k) (show 0 < 100 by decide); lia) (noPy (by rw [Int.natAbs_natCast]; exact Nat.lt_of_le_of_lt (Nat.pow_le_pow_right (by decide) (Nat.le_of_lt hk6)) (by decide))) ?_
    rw [fdiv_nat]
    repeat walk_at "s"
    refine op_mod_int (by decide) ?_
    exact ⟨by rw [show ((n / 100 ^ k : Nat) : Int).fmod 100 = ((n / 100 ^ k % 100 : Nat) : Int) from fmod_nat _ 100], .refl _⟩
  have FE := FE0
  generalize hcs2 : (List.range 6).map (fun k => n / 100 ^ k % 100) = cs
  have hcs6 : cs.length = 6 := by rw [← hcs2]; simp
  have ecs : (List.range 6).map (fun k => V.int (n / 100 ^ k % 100 : Nat)) = natVs cs := by rw [← hcs2]; simp
  rw [ecs]
  repeat walk_at "s"
  refine ⟨_, _, .head, ?_⟩
  repeat walk_at "s"
  refine gi_list (v := .int (cs[0] : Nat)) (by walk_at "mem") (by decide) (nat_get (by lia)) (by simp; lia) ?_
  repeat walk_at "s"
  refine op_mod_int (by decide) ?_
  rw [show ((cs[0] : Nat) : Int).fmod 3 = ((cs[0] % 3 : Nat) : Int) from fmod_nat _ 3]
  repeat walk_at "s"
  intro sz
  rw [show (1 : Int) + ((cs[0] % 3 : Nat) : Int) = ((1 + cs[0] % 3 : Nat) : Int) from by push_cast; rfl]
  repeat walk_at "s"
  refine wp1_For (wpi_value ?_)
  repeat walk_at "s"
  refine gi_list (v := .int (cs[1] : Nat)) (by walk_at "mem") (by decide) (nat_get (by lia)) (by simp; lia) ?_
  repeat walk_at "s"
  refine op_mod_int (by decide) ?_
  rw [show ((cs[1] : Nat) : Int).fmod 3 = ((cs[1] % 3 : Nat) : Int) from fmod_nat _ 3]
  repeat walk_at "s"
  rw [show (3 : Int) + ((cs[1] % 3 : Nat) : Int) = ((3 + cs[1] % 3 : Nat) : Int) from by push_cast; rfl]
  refine gs_list (by walk_at "mem") (by decide) (by simp; lia) ?_
  intro sl
  rw [show pySlice (natVs cs) (some 2) (some ((3 + cs[1] % 3 : Nat) : Int)) none = natVs ((cs.take (3 + cs[1] % 3)).drop 2) from slice_nat cs 2 _ (by lia)]
  generalize hts : (cs.take (3 + cs[1] % 3)).drop 2 = ts
  have htl : ts.length ≤ 3 := by rw [← hts]; simp; lia
  repeat walk_at "s"
  refine pi_list hA (by walk_at "mem") ?_
  refine ⟨BkI cs ts.length sl cl c1 c2 c3 sz L n H (natVs ts), ts.length, ?_, ?_⟩
  · exact ⟨[1 + cs[0] % 3], none, .one (by lia) (by lia), rfl, Nat.zero_le _, rfl⟩
  · rintro i H₁ ⟨ss, o, hss, hsl, hik, rfl⟩
    by_cases hlt : i < ts.length
    · left
      refine ⟨.int (ts[i] : Nat), hlt, listItem_some (by walk_at "mem") (nat_get hlt), ?_⟩
      obtain ⟨l, hl⟩ : ∃ l, ss.getLast? = some l := ⟨ss.getLast hss.ne, List.getLast?_eq_some_getLast hss.ne⟩
      have hlm := hss.le l (List.mem_of_getLast? hl)
      repeat walk_at "s"
      refine wpm_append (by walk_at "mem") ?_
      repeat walk_at "s"
      refine gi_list_neg (v := .int (l : Nat)) (by walk_at "mem") (by decide) (by rw [List.length_map]; exact neg1 (List.length_pos_iff.mpr hss.ne)) ?_ (by simp; lia) ?_
      · have e1 : (-1 + (((natVs ss).length : Nat) : Int)).toNat = ss.length - 1 := by rw [List.length_map]; exact last_ix (List.length_pos_iff.mpr hss.ne)
        rw [e1, List.getElem?_map, ← List.getLast?_eq_getElem?, hl]; rfl
      repeat walk_at "s"
      refine op_mod_int (by decide) ?_
      rw [show ((ts[i] : Nat) : Int).fmod 3 = ((ts[i] % 3 : Nat) : Int) from fmod_nat _ 3]
      repeat walk_at "s"
      refine c_min2 hA ?_
      rw [show min (5 : Int) ((l : Int) + ((ts[i] % 3 : Nat) : Int)) = ((min 5 (l + ts[i] % 3) : Nat) : Int) from minc 5 (l + ts[i] % 3)]
      repeat walk_at "s"
      refine c_append (by walk_at "upd") (by simp; lia) ?_
      repeat walk_at "s"
      exact ⟨ss ++ [min 5 (l + ts[i] % 3)], some (.int (ts[i] : Nat)), hss.snoc hl (by lia) (by lia), by simp [hsl], hlt, by simp⟩
    · right
      refine ⟨listItem_none (by walk_at "mem") (by simp; lia), ?_⟩
      refine wps_nil ?_
      refine wps_cons (wp1_Assign_Name ?_ (hs := swaps_cell FE (.head _)))
      refine wp_LC (ln' := ["k"]) (gn' := []) (fs := ["number"]) (cs := [c3]) FE (by walk_at "cp") (by decide +kernel) (by simp) ?_
      refine wpi_Call ?_
      repeat walk_at "s"
      refine ci_range1 hA (by decide) ?_
      intro dl c cenv FE
      replace FE : FEnv cenv c ["k"] [("number", c3)] [] := FE
      refine turns_mapL (l := List.range 20) (g := fun k => .int (k : Nat)) (f := fun k => .int (n / 10 ^ 12 / 1000 ^ k % 1000 : Nat)) FE (by simp) (fun i k o acc h => range_item h) (fun o acc => range_end) (fun k hk acc => ?_) fun o => ?_
      · have hk6 : k < 20 := by simpa using hk
        repeat walk_at "s"
        refine op_pow_int (by lia) (by have : Builtin.Int.intBits 10 = 4 := by decide +kernel
                                       rw [this]; lia) ?_
        rw [show ((10 : Int) ^ (12 : Int).toNat) = ((10 ^ 12 : Nat) : Int) from pow_nat 10 12]
        refine op_floordiv_int (by decide) (noPy (by decide)) ?_
        rw [fdiv_nat]
        repeat walk_at "s"
        refine op_pow_int (by lia) (by have : Builtin.Int.intBits 1000 = 10 := by decide +kernel
                                       rw [this]; lia) ?_
        rw [show ((1000 : Int) ^ ((k : Nat) : Int).toNat) = ((1000 ^ k : Nat) : Int) from pow_nat 1000 k]
        refine op_floordiv_int (by have := Nat.pow_pos (n := k) (show 0 < 1000 by decide); lia) (noPy (by rw [Int.natAbs_natCast]; exact Nat.lt_of_le_of_lt (Nat.pow_le_pow_right (by decide) (Nat.le_of_lt hk6)) (by decide))) ?_
        rw [fdiv_nat]
        repeat walk_at "s"
        refine op_mod_int (by decide) ?_
        exact ⟨by rw [show ((n / 10 ^ 12 / 1000 ^ k : Nat) : Int).fmod 1000 = ((n / 10 ^ 12 / 1000 ^ k % 1000 : Nat) : Int) from fmod_nat _ 1000], .refl _⟩
      have FE := FE0
      generalize hds2 : (List.range 20).map (fun k => n / 10 ^ 12 / 1000 ^ k % 1000) = ds
      have hds : ds.length = 20 := by rw [← hds2]; simp
      have hdlt : ∀ x ∈ ds, x < 1000 := fun x hx => by
        rw [← hds2] at hx
        obtain ⟨k, _, rfl⟩ := List.mem_map.mp hx
        exact Nat.mod_lt _ (by decide)
      have eds : (List.range 20).map (fun k => V.int (n / 10 ^ 12 / 1000 ^ k % 1000 : Nat)) = natVs ds := by rw [← hds2]; simp
      rw [eds]
      refine ⟨_, _, .head, ?_⟩
      repeat walk_at "s"
      refine wp_LC (ln' := ["j"]) (gn' := ["sum"]) (fs := ["drawn", "sizes"]) (cs := [c1, c2]) FE (by walk_at "cp") (by decide +kernel) (by simp) ?_
      refine wpi_Call ?_
      repeat walk_at "s"
      refine c_len_list (by walk_at "mem") (by simp; lia) ?_
      rw [List.length_map]
      repeat walk_at "s"
      refine ci_range1 hA (by rw [Int.natAbs_natCast]; lia) ?_
      intro rl c cenv FE
      replace FE : FEnv cenv c ["j"] [("sizes", c2), ("drawn", c1)] ["sum"] := FE
      have hss4 : ss.length ≤ 4 := by lia
      refine turns_newL (l := List.range ss.length) (g := fun k => .int (k : Nat)) (f := fun j => natVs (cut ds ss j)) FE (by simp; lia) (fun i k o acc P _ h => range_item h) (fun o acc P _ => range_end) (fun i j hj acc P hP => ?_) fun o rs hrs => ?_
      · have hj2 : j < ss.length := by have := List.mem_of_getElem? hj; simpa using this
        have m1 := hP (c1, .cell (some (.ref dl))) (by walk_at "mem")
        have m2 := hP (c2, .cell (some (.ref sz))) (by walk_at "mem")
        have m3 := hP (dl, .list (natVs ds)) (by walk_at "mem")
        have m4 := hP (sz, .list (natVs ss)) (by walk_at "mem")
        have s1 : ∀ k, (ss.take k).sum ≤ 1000 := fun k => by
          have := hss.sum k
          rcases Nat.lt_or_ge k 5 with h | h
          · lia
          · rw [List.take_of_length_le (by lia)]
            have := hss.sum ss.length
            rw [List.take_length] at this
            lia
        repeat walk_at "s"
        refine gs_list (by walk_at "mem") (by decide) (by simp; lia) ?_
        intro t1
        rw [pySlice_upto _ j, ← List.map_take]
        repeat walk_at "s"
        refine c_sumN hA (by walk_at "mem") (fun d hd => ?_) (by simp; lia) ?_
        · have := (hss.le d (List.mem_of_mem_take hd)).2
          lia
        repeat walk_at "s"
        rw [show (j : Int) + 1 = ((j + 1 : Nat) : Int) from by push_cast; rfl]
        refine gs_list (by walk_at "mem") (by decide) (by simp; lia) ?_
        intro t2
        rw [pySlice_upto _ (j + 1), ← List.map_take]
        repeat walk_at "s"
        refine c_sumN hA (by walk_at "mem") (fun d hd => ?_) (by simp; lia) ?_
        · have := (hss.le d (List.mem_of_mem_take hd)).2
          lia
        repeat walk_at "s"
        refine gs_list (by walk_at "mem") (by decide) (by simp; lia) ?_
        intro t3
        rw [slice_nat _ _ _ (by rw [sum_take_succ hj2]; lia), List.drop_take]
        exact ⟨t3, rfl, .pick (.tail (.tail (.tail .head))) (.pick (.tail (.tail (.tail .head))) (.pick .head (.drop (.drop (.refl _)))))⟩
      · refine ⟨_, _, .head, ?_⟩
        have FE := FE0
        have eb : (List.range ss.length).map (fun j => natVs (cut ds ss j)) = (blocks ds ss).map natVs := by simp [blocks]
        rw [eb]
        repeat walk_at "s"
        refine ⟨(rl, .list (rs.map V.ref)) :: (nls rs ((blocks ds ss).map natVs) ++ H), .pick .head (.app (by walk_at "sub")), ?_⟩
        exact q _ _ _ (blocks_ok hss hss4 hds hdlt) (by rw [hrs]; simp [blocks])
end
end
noncomputable section
theorem Cfg.Ok.hide {C : Cfg} {gl : List (Str × V)} (G : C.Ok gl) (l : List Addr) (h : ∀ p ∈ gl, ∀ vs, p.2 ≠ .tup vs) : (C.hide l).Ok gl where
  kin := G.kin
  g := G.g
  b := G.b
  nolimit := G.nolimit
  gl := fun p hp => by
    obtain ⟨v, rv, hv⟩ := G.gl p hp
    have hn := h p hp
    refine ⟨v, ?_, hv⟩
    cases e : p.2 <;> rw [e] at rv <;> first | exact absurd e (hn _) | (simp only [VRel] at rv ⊢; exact rv)
  bmain := G.bmain
theorem gl3_notup (a : Ad) : ∀ p ∈ GL3 a, ∀ vs, p.2 ≠ .tup vs := by
  intro p hp vs
  simp only [GL3, List.mem_cons, List.not_mem_nil, or_false] at hp
  rcases hp with h | h | h | h | h | h | h | h | h | h | h | h | h | h | h | h | h | h | h | h | h | h | h | h | h | h | h | h | h | h | h <;> subst h <;> simp
noncomputable def escG (st s : Nat) : Bool := decide (1 < st) || decide (s = 34) || (decide (s = 10) && decide (st = 0))
noncomputable def pieceG (st s : Nat) : List Nat := (if escG st s then [92] else []) ++ [s]
noncomputable def piecesG (st : Nat) (w : List Nat) : List (List Nat) := w.map (pieceG st)
noncomputable def wsQ (m : Nat) : List Nat := match m with | 0 => [] | 1 => [10] | 2 => [32] | _ => [10, 9]
noncomputable def wsB (m : Nat) : List Nat := match m with | 0 => [32] | 1 => [10] | 2 => [9, 10] | _ => [13, 10, 32]
noncomputable def oneG (w : List Nat) (c : Nat) : List Nat := if c % 4 % 2 = 1 then [34] ++ (piecesG (c % 4) w).flatten ++ [34] ++ wsQ (c / 4 % 4) else (piecesG (c % 4) w).flatten ++ wsB (c / 4 % 4)
noncomputable def textG (ws : List (List Nat)) (cs : List Nat) : List (List Nat) := List.zipWith oneG ws cs
theorem flat_le {k : Nat} : ∀ {l : List (List Nat)}, (∀ x ∈ l, x.length ≤ k) → l.flatten.length ≤ k * l.length
  | [], _ => by simp
  | x :: l, h => by
    have h1 := h x (.head _)
    have h2 := flat_le (l := l) fun y hy => h y (.tail _ hy)
    rw [List.flatten_cons, List.length_append, List.length_cons, Nat.mul_add, Nat.mul_one]; lia
theorem pieces_le (st : Nat) (w : List Nat) : (piecesG st w).flatten.length ≤ 2 * w.length := by
  have := flat_le (k := 2) (l := piecesG st w) fun x hx => by
    obtain ⟨k, _, rfl⟩ := List.mem_map.mp hx
    unfold pieceG
    split <;> simp
  simpa [piecesG] using this
theorem wsQ_le (m : Nat) : (wsQ m).length ≤ 3 := by unfold wsQ; split <;> simp
theorem wsB_le (m : Nat) : (wsB m).length ≤ 3 := by unfold wsB; split <;> simp
theorem oneG_le (w : List Nat) (c : Nat) : (oneG w c).length ≤ 2 * w.length + 5 := by
  have h1 := pieces_le (c % 4) w
  have h2 := wsQ_le (c / 4 % 4)
  have h3 := wsB_le (c / 4 % 4)
  unfold oneG
  split
  · simp only [List.length_append, List.length_cons, List.length_nil]; lia
  · simp only [List.length_append]; lia
theorem textG_le {ws : List (List Nat)} {cs : List Nat} (hw : ∀ w ∈ ws, w.length ≤ 100) (i : Nat) : ((textG ws cs).take i).flatten.length ≤ 205 * i := by
  refine Nat.le_trans (flat_le (k := 205) fun x hx => ?_) (Nat.mul_le_mul_left _ (List.length_take_le _ _))
  have hx := List.mem_of_mem_take hx
  unfold textG at hx
  obtain ⟨n, hn, rfl⟩ := List.mem_iff_getElem.mp hx
  rw [List.getElem_zipWith]
  have := oneG_le (ws[n]'(by simp at hn; lia)) (cs[n]'(by simp at hn; lia))
  have := hw (ws[n]'(by simp at hn; lia)) (List.getElem_mem _)
  lia
theorem n_sign : ("\n" : Str) = ⟨#[10]⟩ := by decide +kernel
section
variable {C : Cfg} {a : Ad} {A : Around} {H H' : AH} {Q : V → AH → Prop}
inductive TxO (c1 : Addr) (L : Addr) (wl : Addr) (cl : Addr) (ws : List (List Nat)) (cs : List Nat) (H : AH) (i : Nat) (H₁ : AH) : Prop
  | mk (oc o1 o2 o3 o4 : Option V) (h1 : H₁ = (c1, .cell oc) :: (L, AO.ns ["words", "cells", "text", "word", "cell", "more", "body"] [some (.ref wl), some (.ref cl), some (.str (mkS ((textG ws cs).take i).flatten)), o1, o2, o3, o4]) :: H) : TxO c1 L wl cl ws cs H i H₁
theorem sp_text {wl cl : Addr} {ws : List (List Nat)} {cs : List Nat} (W : W3 C a) (hr : Room A 1) (hwl : (wl, AO.list (strVs ws)) ∈ H) (hcl : (cl, AO.list (natVs cs)) ∈ H) (hz : ws.length ≤ 30) (hwz : ∀ w ∈ ws, w.length ≤ 100)
    (q : Q (.str (mkS (textG ws cs).flatten)) H) : WPC C A (.ref a.text) [.ref wl, .ref cl] Q H := by
  have G := W.G
  obtain ⟨cd, hF⟩ := W.text
  refine call_okC ok_text G (fun s R => hF.keeps R.keep) hr rfl rfl rfl (vals := [some (.ref wl), some (.ref cl), none, none, none, none, none]) rfl (VOk.get (.some .head (.some (.tail .head) (.rest rfl)))) fun L cs' A' env hcs hr' FE he => ?_
  · obtain ⟨c1, rfl⟩ := cells1 hcs
    refine ⟨_, .other .nil, ?_⟩
    have hA := hr'.hd
    simp only [List.cons_append, List.nil_append]
    repeat walk_at "s"
    refine wp1_For (wpi_Call ?_)
    repeat walk_at "s"
    refine ci_zip hA (by walk_at "mem") (by walk_at "mem") ?_
    intro bz
    replace G := G.hide [bz] (gl3_notup a)
    refine ⟨TxO c1 L wl cl ws cs H, 30, ?_, ?_⟩
    · refine ⟨none, none, none, none, none, ?_⟩
      rw [List.take_zero, List.flatten_nil, ← mkS_nil]
    · rintro i H₁ ⟨oc, o1, o2, o3, o4, rfl⟩
      by_cases hlt : i < ws.length ∧ i < cs.length
      · left
        obtain ⟨hiw, hic⟩ := hlt
        refine ⟨.tup [.str (mkS ws[i]), .int (cs[i] : Nat)], by lia, ⟨strVs ws, natVs cs, by walk_at "mem", by walk_at "mem", .inl ⟨.str (mkS ws[i]), .int (cs[i] : Nat), by simp [hiw], by simp [hic], rfl⟩⟩, ?_⟩
        have hw100 := hwz ws[i] (List.getElem_mem hiw)
        refine asg_Tuple hA (wpas_cons ?_)
        repeat walk_at "s"
        refine wpas_cons ?_
        repeat walk_at "s"
        refine wpas_nil ?_
        repeat walk_at "s"
        refine wp1_Assign ?_ (hw := noswap (a := "style") FE (.head _) (by walk_at "mem"))
        repeat walk_at "s"
        refine op_mod_int (by decide) ?_
        rw [show ((cs[i] : Nat) : Int).fmod 4 = ((cs[i] % 4 : Nat) : Int) from fmod_nat _ 4]
        repeat walk_at "s"
        refine op_floordiv_int (by decide) (PyProof.noPylong_small (by decide)) ?_
        repeat walk_at "s"
        refine op_mod_int (by decide) ?_
        rw [show ((cs[i] : Nat) : Int).fdiv 4 = ((cs[i] / 4 : Nat) : Int) from fdiv_nat cs[i] 4, show ((cs[i] / 4 : Nat) : Int).fmod 4 = ((cs[i] / 4 % 4 : Nat) : Int) from fmod_nat _ 4]
        repeat walk_at "s"
        refine asg_Tuple hA (wpas_cons ?_)
        repeat walk_at "s"
        refine wpas_cons ?_
        repeat walk_at "s"
        refine wpas_nil ?_
        repeat walk_at "s"
        generalize hst : cs[i] % 4 = st
        generalize hwd : ws[i] = w at hw100 ⊢
        refine wpm_join ?_
        repeat walk_at "s"
        have FE0 := FE
        refine wp_LC (ln' := ["sign"]) (gn' := []) (fs := ["style"]) (cs := [c1]) FE (by walk_at "cp") (by decide +kernel) (by simp) ?_
        refine wpi_value ?_
        repeat walk_at "s"
        refine pi_str hA ?_
        intro b c cenv FE
        replace FE : FEnv cenv c ["sign"] [("style", c1)] [] := FE
        have hst4 : st < 4 := by rw [← hst]; exact Nat.mod_lt _ (by decide)
        generalize hmm : cs[i] / 4 % 4 = mo
        have hmo4 : mo < 4 := by rw [← hmm]; exact Nat.mod_lt _ (by decide)
        refine turns_mapL (l := w) (g := fun s => .str (sg s)) (f := fun s => .str (mkS (pieceG st s))) FE (by lia) (fun i k o acc h => sign_some h) (fun o acc => sign_none) (fun ce hce acc => ?_) fun o => ?_
        · refine wp_BinOp (WP.pin (.str (mkS (if escG st ce then [92] else []))) ?_ ?_)
          · refine wp_IfExp (WP.pin (T := BRel) (escG st ce) ?_ ?_)
            · repeat walk_at "s"
              refine ⟨fun h => ?_, fun h => ?_⟩
              · have h' : 1 < st := Int.ofNat_lt.mp (of_decide_eq_true h)
                exact ⟨by simp [escG, h'], .refl _⟩
              · have h' : ¬ 1 < st := fun x => absurd (Int.ofNat_lt.mpr x) (of_decide_eq_false h)
                repeat walk_at "s"
                rw [sg_is ce 34 q_sign]
                refine ⟨fun h3 => ?_, fun h3 => ?_⟩
                · have h3' := of_decide_eq_true h3
                  exact ⟨by simp [escG, h3'], .refl _⟩
                · have h3' := of_decide_eq_false h3
                  repeat walk_at "s"
                  rw [sg_is ce 10 n_sign]
                  refine ⟨fun h4 => ?_, fun h4 => ?_⟩
                  · have h4' := of_decide_eq_true h4
                    repeat walk_at "s"
                    refine ⟨fun h5 => ?_, fun h5 => ?_⟩
                    · have h5' : st = 0 := by simpa using h5
                      repeat walk_at "s"
                      refine ⟨fun _ => ?_, fun h6 => nomatch h6⟩
                      exact ⟨by simp [escG, h4', h5'], .refl _⟩
                    · have h5' : st ≠ 0 := by simpa using h5
                      refine ⟨fun h6 => (nomatch h6), fun _ => ?_⟩
                      repeat walk_at "s"
                      exact ⟨by simp only [escG, h', h3', h5', decide_false, Bool.and_false, Bool.or_false], .refl _⟩
                  · have h4' := of_decide_eq_false h4
                    refine ⟨fun h6 => (nomatch h6), fun _ => ?_⟩
                    repeat walk_at "s"
                    exact ⟨by simp only [escG, h', h3', h4', decide_false, Bool.false_and, Bool.or_false], .refl _⟩
            · refine ⟨fun h => ?_, fun h => ?_⟩
              · rw [h]
                repeat walk_at "s"
                exact ⟨by rw [b_sign]; rfl, .refl _⟩
              · rw [h]
                repeat walk_at "s"
                exact ⟨by rw [mkS_nil]; rfl, .refl _⟩
          · repeat walk_at "s"
            have hif : (if escG st ce then [92] else [] : List Nat).length ≤ 1 := by split <;> simp
            refine op_add_str (by rw [mkS_len]; simp [Str.length]; lia) ?_
            exact ⟨by rw [mkS_app, pieceG], .refl _⟩
        · have FE := FE0
          refine ⟨_, _, .head, ?_⟩
          have ej : w.map (fun s => V.str (mkS (pieceG st s))) = ((piecesG st w).map mkS).map V.str := by simp [piecesG]
          rw [ej]
          have hpf := pieces_le st w
          have htl := textG_le (cs := cs) hwz i
          have hi20 : i < 30 := by lia
          have hil : i < (textG ws cs).length := by simp [textG]; lia
          have hone : (textG ws cs)[i] = oneG w cs[i] := by simp only [textG, List.getElem_zipWith, hwd]
          have htk : ((textG ws cs).take (i + 1)).flatten = ((textG ws cs).take i).flatten ++ oneG w cs[i] := by
            rw [List.take_succ_eq_append_getElem hil, List.flatten_append, hone]; simp
          repeat walk_at "s"
          refine c_join (by walk_at "mem") (by rw [sum_len, empty_len, Nat.mul_zero]; lia) ?_
          rw [tjoin_mkS]
          generalize hbd : (piecesG st w).flatten = bd at hpf ⊢
          have hs34 : ("\"" : Str) = mkS [34] := by decide +kernel
          refine Op1.sub (.drop (.refl _)) ?_
          repeat walk_at "s"
          refine op_mod_int (by decide) ?_
          rw [show ((st : Nat) : Int).fmod 2 = ((st % 2 : Nat) : Int) from fmod_nat st 2]
          repeat walk_at "s"
          generalize htx : ((textG ws cs).take i).flatten = tx at htl htk ⊢
          refine ⟨fun h => ?_, fun h => ?_⟩
          · have h' : st % 2 = 1 := by
              rcases Nat.mod_two_eq_zero_or_one st with e | e
              · rw [e] at h; exact absurd h (by decide)
              · exact e
            have hws := wsQ_le mo
            repeat walk_at "s"
            rw [hs34]
            refine op_add_str (by simp only [mkS_len, List.length_cons, List.length_nil]; lia) ?_
            rw [mkS_app]
            repeat walk_at "s"
            refine op_add_str (by simp only [mkS_len, List.length_append, List.length_cons, List.length_nil]; lia) ?_
            rw [mkS_app]
            repeat walk_at "s"
            refine op_add_str (by simp only [mkS_len, List.length_append, List.length_cons, List.length_nil]; lia) ?_
            rw [mkS_app]
            repeat walk_at "s"
            intro gl
            repeat walk_at "s"
            refine gi_list (v := .str (mkS (wsQ mo))) (by walk_at "mem") (by lia) ?_ (by decide) ?_
            · rw [Int.toNat_natCast]
              have hcase : mo = 0 ∨ mo = 1 ∨ mo = 2 ∨ mo = 3 := by lia
              rcases hcase with e | e | e | e <;> rw [e] <;> exact congrArg (fun x => some (V.str x)) (by decide +kernel)
            refine Op2.sub (.drop (.refl _)) ?_
            refine op_add_str (by simp only [mkS_len, List.length_append, List.length_cons, List.length_nil]; lia) ?_
            rw [mkS_app]
            repeat walk_at "s"
            refine ⟨some (.int st), some (.str (mkS w)), some (.int (cs[i] : Nat)), some (.int mo), some (.str (mkS bd)), ?_⟩
            rw [htk, oneG, ← hwd, hst, if_pos h', hwd, hbd, hmm]
            simp only [List.append_assoc]
          · have h' : ¬ st % 2 = 1 := by
              rcases Nat.mod_two_eq_zero_or_one st with e | e
              · lia
              · rw [e] at h; exact absurd h (by decide)
            have hws := wsB_le mo
            repeat walk_at "s"
            refine op_add_str (by simp only [mkS_len]; lia) ?_
            rw [mkS_app]
            repeat walk_at "s"
            intro gl
            repeat walk_at "s"
            refine gi_list (v := .str (mkS (wsB mo))) (by walk_at "mem") (by lia) ?_ (by decide) ?_
            · rw [Int.toNat_natCast]
              have hcase : mo = 0 ∨ mo = 1 ∨ mo = 2 ∨ mo = 3 := by lia
              rcases hcase with e | e | e | e <;> rw [e] <;> exact congrArg (fun x => some (V.str x)) (by decide +kernel)
            refine Op2.sub (.drop (.refl _)) ?_
            refine op_add_str (by simp only [mkS_len, List.length_append]; lia) ?_
            rw [mkS_app]
            repeat walk_at "s"
            refine ⟨some (.int st), some (.str (mkS w)), some (.int (cs[i] : Nat)), some (.int mo), some (.str (mkS bd)), ?_⟩
            rw [htk, oneG, ← hwd, hst, if_neg h', hwd, hbd, hmm]
            simp only [List.append_assoc]
      · right
        refine ⟨⟨strVs ws, natVs cs, by walk_at "mem", by walk_at "mem", .inr ⟨by simp; lia, rfl⟩⟩, ?_⟩
        have hall : (textG ws cs).take i = textG ws cs := List.take_of_length_le (by simp [textG]; lia)
        rw [hall]
        replace G := W.G
        repeat walk_at "s"
        exact ⟨H, .drop (.drop (.refl _)), q⟩
end
end
noncomputable section
noncomputable def nl (l : List Nat) : Int := (l.count 10 : Nat)
theorem trip {α β : Type} {a : α} {b : β} {z z' : Int} (h : z = z') : (a, b, z) = (a, b, z') := by rw [h]
theorem nl_nil : nl [] = 0 := rfl
theorem nl_app (l m : List Nat) : nl (l ++ m) = nl l + nl m := by unfold nl; rw [List.count_append]; push_cast; rfl
theorem nl_cons (c : Nat) (l : List Nat) : nl (c :: l) = lnN (nl l) c := by
  unfold nl lnN
  by_cases h : c = 10
  · subst h; simp
  · rw [if_neg h, List.count_cons_of_ne (by lia)]
noncomputable def pc (p : Bool × Nat) : List Nat := (if p.1 then [92] else []) ++ [p.2]
noncomputable def psG (st : Nat) (w : List Nat) : List (Bool × Nat) := w.map fun s => (escG st s, s)
theorem psG_pc (st : Nat) (w : List Nat) : (psG st w).map pc = piecesG st w := by
  unfold psG piecesG
  rw [List.map_map]; rfl
theorem psG_snd (st : Nat) (w : List Nat) : (psG st w).map Prod.snd = w := by
  unfold psG
  rw [List.map_map]
  exact List.map_id' w
theorem nl_pcs : ∀ ps : List (Bool × Nat), nl ((ps.map pc).flatten) = nl (ps.map Prod.snd)
  | [] => rfl
  | (b, s) :: ps => by
    rw [List.map_cons, List.flatten_cons, nl_app, nl_pcs ps, List.map_cons, nl_cons]
    have : nl (pc (b, s)) = lnN 0 s := by
      cases b
      · show nl [s] = _; rw [nl_cons]; rfl
      · show nl [92, s] = _; rw [nl_cons, nl_cons]; unfold lnN; simp [nl_nil]
    rw [this]
    unfold lnN; split <;> lia
theorem qLem : ∀ (ps : List (Bool × Nat)) (tok r : List Nat) (n : Int), (∀ p ∈ ps, p.1 = false → p.2 ≠ 34 ∧ p.2 ≠ 92) → qGo tok ((ps.map pc).flatten ++ 34 :: r) n = (tok ++ ps.map Prod.snd, r, n + nl (ps.map Prod.snd))
  | [], tok, r, n, _ => by
    show qGo tok (34 :: r) n = _
    rw [qGo_q]; simp [nl_nil]
  | (b, s) :: ps, tok, r, n, h => by
    have ih := qLem ps (tok ++ [s]) r (lnN n s) fun p hp => h p (.tail _ hp)
    have e : qGo tok (((b, s) :: ps).map pc |>.flatten.append (34 :: r)) n = qGo (tok ++ [s]) ((ps.map pc).flatten ++ 34 :: r) (lnN n s) := by
      cases b
      · obtain ⟨h1, h2⟩ := h (false, s) (.head _) rfl
        exact qGo_b h1 h2
      · exact qGo_e
    show qGo tok (((b, s) :: ps).map pc |>.flatten.append (34 :: r)) n = _
    rw [e, ih, List.map_cons, nl_cons, List.append_assoc]
    refine trip ?_
    unfold lnN; split <;> lia
theorem bLem : ∀ (ps : List (Bool × Nat)) (tok r : List Nat) (n : Int) (c : Nat), isW c = true → (∀ p ∈ ps, p.1 = false → isW p.2 = false ∧ p.2 ≠ 92) → bGo tok ((ps.map pc).flatten ++ c :: r) n = (tok ++ ps.map Prod.snd, r, lnN (n + nl (ps.map Prod.snd)) c)
  | [], tok, r, n, c, hc, _ => by
    show bGo tok (c :: r) n = _
    rw [bGo_w hc]; simp [nl_nil]
  | (b, s) :: ps, tok, r, n, c, hc, h => by
    have ih := bLem ps (tok ++ [s]) r (lnN n s) c hc fun p hp => h p (.tail _ hp)
    have e : bGo tok (((b, s) :: ps).map pc |>.flatten.append (c :: r)) n = bGo (tok ++ [s]) ((ps.map pc).flatten ++ c :: r) (lnN n s) := by
      cases b
      · obtain ⟨h1, h2⟩ := h (false, s) (.head _) rfl
        exact bGo_b h1 h2
      · exact bGo_e
    show bGo tok (((b, s) :: ps).map pc |>.flatten.append (c :: r)) n = _
    rw [e, ih, List.map_cons, nl_cons, List.append_assoc]
    refine trip ?_
    unfold lnN; split <;> split <;> lia
theorem tSkip : ∀ (l r : List Nat) (n : Int), (∀ c ∈ l, isW c = true) → tGo (l ++ r) n = tGo r (n + nl l)
  | [], r, n, _ => by rw [nl_nil, Int.add_zero]; rfl
  | c :: l, r, n, h => by
    rw [List.cons_append, tGo_ws (h c (.head _)), tSkip l r _ fun d hd => h d (.tail _ hd), nl_cons]
    congr 1
    unfold lnN; split <;> lia
theorem wsQ_w (m : Nat) : ∀ c ∈ wsQ m, isW c = true := by
  unfold wsQ
  split <;> intro c hc <;> simp at hc
  · subst hc; rfl
  · subst hc; rfl
  · rcases hc with rfl | rfl <;> rfl
theorem wsB_w (m : Nat) : ∃ c l, wsB m = c :: l ∧ isW c = true ∧ ∀ d ∈ l, isW d = true := by
  unfold wsB
  split
  · exact ⟨32, [], rfl, rfl, by simp⟩
  · exact ⟨10, [], rfl, rfl, by simp⟩
  · exact ⟨9, [10], rfl, rfl, by simp [isW]⟩
  · exact ⟨13, [10, 32], rfl, rfl, by simp [isW]⟩
noncomputable def wordOk (w : List Nat) : Prop := w ≠ [] ∧ ∀ s ∈ w, s ≠ 92 ∧ (s = 34 ∨ s = 10 ∨ isW s = false)
theorem psG_mem {st : Nat} {w : List Nat} {p : Bool × Nat} (h : p ∈ psG st w) : p.2 ∈ w ∧ p.1 = escG st p.2 := by
  unfold psG at h
  obtain ⟨k, hk, rfl⟩ := List.mem_map.mp h
  exact ⟨hk, rfl⟩
theorem oneLem {w : List Nat} (c : Nat) (hw : wordOk w) : ∃ trail, (∀ d ∈ trail, isW d = true) ∧ ∀ (r : List Nat) (n : Int), tGo (oneG w c ++ r) n = (w, trail ++ r, n + nl (oneG w c) - nl trail) := by
  unfold oneG
  generalize hst : c % 4 = st
  have hst4 : st < 4 := by rw [← hst]; exact Nat.mod_lt _ (by decide)
  rw [← psG_pc]
  have hesc : ∀ p ∈ psG st w, p.1 = false → ¬ 1 < st ∧ p.2 ≠ 34 ∧ (p.2 = 10 → st ≠ 0) ∧ p.2 ≠ 92 ∧ (p.2 = 10 ∨ isW p.2 = false) := by
    intro p hp hf
    obtain ⟨hm, e⟩ := psG_mem hp
    rw [e] at hf
    unfold escG at hf
    simp only [Bool.or_eq_false_iff, Bool.and_eq_false_iff, decide_eq_false_iff_not] at hf
    obtain ⟨⟨h1, h2⟩, h3⟩ := hf
    obtain ⟨h4, h5⟩ := hw.2 _ hm
    refine ⟨h1, h2, fun h => ?_, h4, ?_⟩
    · rcases h3 with h3 | h3
      · exact absurd h h3
      · exact h3
    · rcases h5 with h5 | h5
      · exact absurd h5 h2
      · exact h5
  by_cases h1 : st % 2 = 1
  · rw [if_pos h1]
    refine ⟨wsQ (c / 4 % 4), wsQ_w _, fun r n => ?_⟩
    have e : [34] ++ ((psG st w).map pc).flatten ++ [34] ++ wsQ (c / 4 % 4) ++ r = 34 :: (((psG st w).map pc).flatten ++ 34 :: (wsQ (c / 4 % 4) ++ r)) := by simp
    rw [e, tGo_q, qLem, psG_snd, List.nil_append]
    · refine trip ?_
      rw [nl_app, nl_app, nl_app, nl_pcs, psG_snd]
      have : nl [34] = 0 := rfl
      lia
    · intro p hp hf
      have h := hesc p hp hf
      exact ⟨h.2.1, h.2.2.2.1⟩
  · rw [if_neg h1]
    obtain ⟨c0, l, e0, hc0, hl⟩ := wsB_w (c / 4 % 4)
    rw [e0]
    refine ⟨l, hl, fun r n => ?_⟩
    have hne : w ≠ [] := hw.1
    have hb : ∀ p ∈ psG st w, p.1 = false → (isW p.2 = false ∧ p.2 ≠ 92) ∧ p.2 ≠ 34 := by
      intro p hp hf
      obtain ⟨g1, g2, g3, g4, g5⟩ := hesc p hp hf
      refine ⟨⟨?_, g4⟩, g2⟩
      rcases g5 with h | h
      · exact absurd (show st = 0 by lia) (g3 h)
      · exact h
    have hsnd := psG_snd st w
    have hnl := nl_pcs (psG st w)
    generalize psG st w = ps at hb hsnd hnl ⊢
    match ps with
    | [] => exact absurd hsnd.symm hne
    | (b, s) :: ps =>
      have key : tGo ((((b, s) :: ps).map pc).flatten ++ c0 :: l ++ r) n = bGo [s] ((ps.map pc).flatten ++ c0 :: (l ++ r)) (lnN n s) := by
        have e : (((b, s) :: ps).map pc).flatten ++ c0 :: l ++ r = pc (b, s) ++ ((ps.map pc).flatten ++ c0 :: (l ++ r)) := by simp
        rw [e]
        cases b
        · obtain ⟨⟨g1, g2⟩, g3⟩ := hb (false, s) (.head _) rfl
          exact tGo_b g1 g3 g2
        · exact tGo_e
      rw [key, bLem ps [s] (l ++ r) _ c0 hc0 fun p hp hf => (hb p (.tail _ hp) hf).1]
      rw [← hsnd, List.map_cons]
      refine trip ?_
      rw [nl_app, hnl, List.map_cons, nl_cons, nl_cons]
      unfold lnN
      split <;> split <;> lia
noncomputable def toks : Nat → List Nat → Int → List (List Nat) × List Nat × Int
  | 0, cs, n => ([], cs, n)
  | k + 1, cs, n => ((tGo cs n).1 :: (toks k (tGo cs n).2.1 (tGo cs n).2.2).1, (toks k (tGo cs n).2.1 (tGo cs n).2.2).2)
theorem toks_text : ∀ (ws : List (List Nat)) (cs : List Nat) (lead : List Nat) (n : Int), ws.length ≤ cs.length → (∀ w ∈ ws, wordOk w) → (∀ c ∈ lead, isW c = true) →
    toks (ws.length + 2) (lead ++ (textG ws cs).flatten) n = (ws ++ [[], []], [], n + nl lead + nl (textG ws cs).flatten)
  | [], cs, lead, n, _, _, hl => by
    have e : (textG [] cs).flatten = [] := by simp [textG]
    have h := tSkip lead [] n hl
    rw [e]
    show toks 2 (lead ++ []) n = _
    have h0 : ∀ m, tGo [] m = ([], [], m) := fun _ => rfl
    simp only [toks, h, h0, nl_nil, Int.add_zero, List.nil_append]
  | w :: ws, [], lead, n, h, _, _ => by simp at h
  | w :: ws, c :: cs, lead, n, h, hw, hl => by
    obtain ⟨trail, t1, t2⟩ := oneLem c (hw w (.head _))
    have ih := toks_text ws cs trail (n + nl lead + nl (oneG w c) - nl trail) (by simpa using h) (fun v hv => hw v (.tail _ hv)) t1
    have e : (textG (w :: ws) (c :: cs)).flatten = oneG w c ++ (textG ws cs).flatten := by simp [textG]
    rw [e, List.length_cons, show ws.length + 1 + 2 = (ws.length + 2) + 1 by lia, toks, tSkip lead _ n hl, t2]
    dsimp only
    rw [ih, nl_app]
    refine trip ?_
    lia
end
noncomputable section
inductive Tok where
  | num (z : Int)
  | mark (j : Nat)
noncomputable abbrev zw (z : Int) : List Nat := wz z (wordL z.natAbs)
noncomputable def tokW : Tok → List Nat
  | .num z => zw z
  | .mark j => [97 + j]
noncomputable def heldW : Option Int → List Nat
  | none => []
  | some z => zw z
noncomputable def rdGo : List Tok → Int → Option Int → Nat → List Tok → List (List (List Nat)) → List Tok × List (List (List Nat))
  | [], _, _, _, out, ss => (out, ss)
  | .num z :: ts, t, none, k, out, ss => rdGo ts t (some z) k out ss
  | .num z :: ts, t, some h, k, out, ss => rdGo ts (t + h) (some z) (k + 1) (out ++ [.num (t + h)]) ss
  | .mark j :: ts, t, h, k, out, ss => rdGo ts t none 0 (if k = 0 then out else out ++ [.mark j]) (ss.set j (ss.getD j [] ++ [heldW h]))
structure RK (C : Cfg) (a : Ad) (x dx pb sd : Addr) (fp : V) (n : Int) (o : Obj) (kvs : List (Str × Value)) (sts : List Addr) (KK : List (List Nat) → List (List (List Nat)) → AH) : Prop where
  hx : ∀ ws ss, (x, AO.obj (instObj a.cls dx)) ∈ KK ws ss
  hd : ∀ ws ss, (dx, AO.attrs (netA n fp pb)) ∈ KK ws ss
  hp : ∀ ws ws' ss, Upd pb (.list (strVs ws)) (.list (strVs ws')) (KK ws ss) (KK ws' ss)
  hs : ∀ ws ss (j : Nat) st (s s' : List (List Nat)), sts[j]? = some st → ss[j]? = some s → Upd st (.list (strVs s)) (.list (strVs s')) (KK ws ss) (KK ws (ss.set j s'))
  ho : ∀ ws ss, (sd, AO.obj o) ∈ KK ws ss
  hT : ∀ ws ss, (a.pD2i, AO.tab "_digits2int.<locals>.inner") ∈ KK ws ss
  D : DObj C o kvs
  sys : (sd == sysModules) = false
  key : ∀ j st, sts[j]? = some st → valueAt kvs (mkS [97 + j]) = some (.ref st)
  nokey : ∀ z, valueAt kvs (mkS (zw z)) = none
section
variable {C : Cfg} {a : Ad} {x dx pb sd : Addr} {fp : V} {n : Int} {o : Obj} {kvs : List (Str × Value)} {sts : List Addr} {KK : List (List Nat) → List (List (List Nat)) → AH}
theorem RK.push (hK : RK C a x dx pb sd fp n o kvs sts KK) (ws : List (List Nat)) (w : List Nat) (ss : List (List (List Nat))) : Upd pb (.list (strVs ws)) (.list (strVs ws ++ [.str (mkS w)])) (KK ws ss) (KK (ws ++ [w]) ss) := by
  have := hK.hp ws (ws ++ [w]) ss
  simpa [strVs] using this
theorem RK.strike (hK : RK C a x dx pb sd fp n o kvs sts KK) (ws : List (List Nat)) {ss : List (List (List Nat))} {j : Nat} {st : Addr} (h1 : sts[j]? = some st) (h2 : j < ss.length) (w : List Nat) : Upd st (.list (strVs (ss.getD j []))) (.list (strVs (ss.getD j []) ++ [.str (mkS w)])) (KK ws ss) (KK ws (ss.set j (ss.getD j [] ++ [w]))) := by
  have e : ss[j]? = some (ss.getD j []) := by rw [List.getD_eq_getElem?_getD, List.getElem?_eq_getElem h2]; rfl
  have := hK.hs ws ss j st (ss.getD j []) (ss.getD j [] ++ [w]) h1 e
  simpa [strVs] using this
end
section
variable {C : Cfg} {a : Ad} {A : Around} {H H' : AH} {Q : V → AH → Prop}
inductive RdI (m : Nat) (B : Int) (ts : List Tok) (res : List Tok × List (List (List Nat))) (J : Nat) (x sd L : Addr) (KK : List (List Nat) → List (List (List Nat)) → AH) (i : Nat) (H₁ : AH) : Prop
  | mk (t : Int) (h : Option Int) (k : Nat) (out : List Tok) (ss : List (List (List Nat))) (o1 o2 : Option V) (h1 : i ≤ ts.length) (h2 : rdGo (ts.drop i) t h k out ss = res) (h3 : out.length ≤ i) (h4 : ss.length = J) (h5 : k ≤ i) (h6 : (t.natAbs : Int) ≤ i * B) (h7 : ∀ z, h = some z → (z.natAbs : Int) ≤ B) (h8 : ∀ s ∈ ss, s.length ≤ m + i)
    (e : H₁ = (L, .ns ["line", "struck", "total", "held", "kept", "turn", "word"] [some (.ref x), some (.ref sd), some (.int t), some (.str (mkS (heldW h))), some (.int k), o1, o2]) :: KK ((ts.drop i ++ out).map tokW) ss) : RdI m B ts res J x sd L KK i H₁
theorem sp_round {x dx pb sd : Addr} {fp : V} {n : Int} {o : Obj} {kvs : List (Str × Value)} {sts : List Addr} {KK : List (List Nat) → List (List (List Nat)) → AH} {ts out : List Tok} {ss ss' : List (List (List Nat))} {m B : Nat}
    (W : W3 C a) (hr : Room A 30) (hK : RK C a x dx pb sd fp n o kvs sts KK) (hz : ts.length ≤ 30) (hB : (31 : Int) * B < 16 ^ 100) (hts : ∀ t ∈ ts, match t with | .num z => (z.natAbs : Int) ≤ B | .mark j => j < sts.length)
    (hss : ss.length = sts.length) (hsz : ∀ s ∈ ss, s.length ≤ m) (hm : m ≤ 1000) (hg : rdGo ts 0 none 0 [] ss = (out, ss'))
    (q : Q .none (KK (out.map tokW) ss')) : WPC C A (.ref a.round) [.ref x, .ref sd] Q (KK (ts.map tokW) ss) := by
  have G := W.G
  obtain ⟨cd, hF⟩ := W.round
  refine call_ok ok_round G (fnAt_of_base hF) hr rfl rfl (by walk_at "init") rfl rfl fun L cd A' env hr' hD FE he => ?_
  have hA := hr'.hd
  have hB0 : (0 : Int) ≤ B := by lia
  repeat walk_at "s"
  refine wp1_Assign ?_ (hw := swap_const (by decide +kernel))
  repeat walk_at "s"
  refine asg_Tuple hA (wpas_cons ?_)
  repeat walk_at "s"
  refine wpas_cons ?_
  repeat walk_at "s"
  refine wpas_cons ?_
  repeat walk_at "s"
  refine wpas_nil ?_
  repeat walk_at "s"
  refine wp1_For (wpi_Call ?_)
  repeat walk_at "s"
  refine ga_pb W (.tail _ (hK.hx _ _)) (.tail _ (hK.hd _ _)) ?_
  repeat walk_at "s"
  refine c_len_list (.tail _ (hK.hp _ [] _).mem) (by simp; lia) ?_
  rw [List.length_map, List.length_map]
  repeat walk_at "s"
  refine ci_range1 hA (by rw [Int.natAbs_natCast]; lia) ?_
  refine ⟨RdI m B ts (out, ss') sts.length x sd L KK, ts.length, ?_, ?_⟩
  · exact ⟨0, none, 0, [], ss, none, none, Nat.zero_le _, hg, Nat.le_refl _, hss, Nat.le_refl _, by simp, by simp, hsz, by rw [List.drop_zero, List.append_nil]; rfl⟩
  · rintro i H₁ ⟨t, h, k, out1, ss1, o1, o2, hi, hg1, ho1, hs1, hk1, ht1, hh1, hz1, rfl⟩
    by_cases hlt : i < ts.length
    · left
      refine ⟨.int i, hlt, range_some (by lia), ?_⟩
      have ed : ts.drop i = ts[i] :: ts.drop (i + 1) := List.drop_eq_getElem_cons hlt
      have htok := hts ts[i] (List.getElem_mem hlt)
      repeat walk_at "s"
      refine gm_get W (.tail _ (hK.hx _ _)) (.tail _ (hK.hd _ _)) ?_
      repeat walk_at "s"
      have eH : (ts.drop i ++ out1).map tokW = tokW ts[i] :: (ts.drop (i + 1) ++ out1).map tokW := by rw [ed]; rfl
      rw [eH]
      refine sp_get_pb (t := .str (mkS (tokW ts[i]))) (ts := strVs ((ts.drop (i + 1) ++ out1).map tokW)) W (hr'.mono (by decide)) (.tail _ (hK.hx _ _)) (.tail _ (hK.hd _ _)) (.tail (hK.hp (tokW ts[i] :: (ts.drop (i + 1) ++ out1).map tokW) ((ts.drop (i + 1) ++ out1).map tokW) ss1)) (by simp; lia) ?_
      rw [ed] at hg1
      generalize ts[i] = tk at hg1 htok ⊢
      repeat walk_at "s"
      cases tk with
      | num z =>
        refine op_in_dict (.tail _ (hK.ho _ _)) hK.D hK.sys ?_
        rw [show valueAt kvs (mkS (tokW (.num z))) = none from hK.nokey z]
        repeat walk_at "s"
        refine ⟨fun h => (nomatch h), fun _ => ?_⟩
        repeat walk_at "s"
        have hz2 : z.natAbs < 16 ^ 100 := by have : (z.natAbs : Int) ≤ B := htok; lia
        cases h with
        | none =>
          refine tr_str (by rw [mkS_len]; simp [heldW]) ?_
          refine ⟨fun h => absurd h (by simp [heldW, mkS_len]), fun _ => ?_⟩
          repeat walk_at "s"
          exact ⟨t, some z, k, out1, ss1, _, _, hlt, hg1, by lia, hs1, by lia, by have : (i : Int) * B ≤ (i + 1 : Nat) * B := Int.mul_le_mul_of_nonneg_right (by lia) hB0
                                                                                  lia, fun y hy => by cases hy; exact htok, fun s hs => by have := hz1 s hs; lia, rfl⟩
        | some h0 =>
          have hh0 : (h0.natAbs : Int) ≤ B := hh1 h0 rfl
          have hh2 : h0.natAbs < 16 ^ 100 := by lia
          have hib : ((i + 1 : Nat) : Int) * B = i * B + B := by push_cast; rw [Int.add_mul, Int.one_mul]
          have hib2 : ((i + 1 : Nat) : Int) * B ≤ 30 * B := Int.mul_le_mul_of_nonneg_right (by lia) hB0
          have hth : ((t + h0).natAbs : Int) ≤ ((i + 1 : Nat) : Int) * B := by rw [hib]; exact absAI (by assumption) hh0
          have hth2 : (t + h0).natAbs < 16 ^ 100 := by lia
          have hwl : (zw h0).length ≤ 101 := by have := apL_len 100 _ hh2; simp [zw, wz]; lia
          refine tr_str (by rw [mkS_len]; simp only [heldW]; lia) ?_
          refine ⟨fun _ => ?_, fun h => absurd h (by simp [heldW, mkS_len, zw, wz]; lia)⟩
          repeat walk_at "s"
          refine wp1_swap2 FE hA (by walk_at "mem") (by walk_at "mem") ?_
          repeat walk_at "s"
          refine sp_number W (hr'.mono (by decide)) hh2 (.tail _ (hK.hT _ _)) ?_
          repeat walk_at "s"
          refine gm_push W (.tail _ (hK.hx _ _)) (.tail _ (hK.hd _ _)) ?_
          repeat walk_at "s"
          refine sp_Int2AP W (hr'.mono (by decide)) (by lia) ?_
          repeat walk_at "s"
          refine sp_wordB W (hr'.mono (by decide)) (by have := apL_len 100 _ hth2; simp; lia) ?_
          repeat walk_at "s"
          refine sp_push W (hr'.mono (by decide)) (.tail _ (hK.hx _ _)) (.tail _ (hK.hd _ _)) (.tail (hK.push _ _ _)) (by simp; lia) ?_
          repeat walk_at "s"
          exact ⟨t + h0, some z, k + 1, out1 ++ [Tok.num (t + h0)], ss1, some (.int i), some (.str (mkS (tokW (.num z)))), hlt, hg1, by simp; lia, hs1, by lia, hth, fun y hy => by cases hy; exact htok, fun s hs => by have := hz1 s hs; lia, by
            rw [← List.append_assoc, List.map_append (l₂ := [Tok.num (t + h0)])]; rfl⟩
      | mark j =>
        have hj : j < sts.length := htok
        have hst : sts[j]? = some sts[j] := List.getElem?_eq_getElem hj
        refine op_in_dict (.tail _ (hK.ho _ _)) hK.D hK.sys ?_
        rw [show valueAt kvs (mkS (tokW (.mark j))) = some (.ref sts[j]) from hK.key j _ hst]
        repeat walk_at "s"
        refine ⟨fun _ => ?_, fun h => (nomatch h)⟩
        repeat walk_at "s"
        refine gi_dict (.tail _ (hK.ho _ _)) hK.D (hK.key j _ hst) ?_
        repeat walk_at "s"
        refine wpm_append (.tail _ (hK.strike _ hst (by lia) (heldW h)).mem) ?_
        repeat walk_at "s"
        have hgm : (ss1.getD j []).length ≤ m + i := by
          rw [List.getD_eq_getElem?_getD, List.getElem?_eq_getElem (by lia)]
          exact hz1 _ (List.getElem_mem _)
        refine c_append (.tail (hK.strike _ hst (by lia) (heldW h))) (by rw [List.length_map]; lia) ?_
        repeat walk_at "s"
        have hib : (i : Int) * B ≤ ((i + 1 : Nat) : Int) * B := Int.mul_le_mul_of_nonneg_right (by lia) hB0
        have hz3 : ∀ s ∈ ss1.set j (ss1.getD j [] ++ [heldW h]), s.length ≤ m + (i + 1) := fun s hs => by
          rcases List.mem_or_eq_of_mem_set hs with hs | rfl
          · have := hz1 s hs; lia
          · rw [List.length_append, List.length_singleton]; lia
        refine ⟨fun hk => ?_, fun hk => ?_⟩
        · have hk0 : k ≠ 0 := by simpa using hk
          rw [rdGo, if_neg hk0] at hg1
          repeat walk_at "s"
          refine gm_push W (.tail _ (hK.hx _ _)) (.tail _ (hK.hd _ _)) ?_
          repeat walk_at "s"
          refine sp_push W (hr'.mono (by decide)) (.tail _ (hK.hx _ _)) (.tail _ (hK.hd _ _)) (.tail (hK.push _ _ _)) (by simp; lia) ?_
          repeat walk_at "s"
          refine wp1_Assign ?_ (hw := swap_const (by decide +kernel))
          repeat walk_at "s"
          refine asg_Tuple hA (wpas_cons ?_)
          repeat walk_at "s"
          refine wpas_cons ?_
          repeat walk_at "s"
          refine wpas_nil ?_
          repeat walk_at "s"
          exact ⟨t, none, 0, out1 ++ [Tok.mark j], _, some (.int i), some (.str (mkS (tokW (.mark j)))), hlt, hg1, by simp; lia, by rw [List.length_set]; exact hs1, by lia, by lia, fun y hy => (nomatch hy), hz3, by
            rw [← List.append_assoc, List.map_append (l₂ := [Tok.mark j])]; rfl⟩
        · have hk0 : k = 0 := by simpa using hk
          rw [rdGo, if_pos hk0] at hg1
          repeat walk_at "s"
          refine wp1_Assign ?_ (hw := swap_const (by decide +kernel))
          repeat walk_at "s"
          refine asg_Tuple hA (wpas_cons ?_)
          repeat walk_at "s"
          refine wpas_cons ?_
          repeat walk_at "s"
          refine wpas_nil ?_
          repeat walk_at "s"
          exact ⟨t, none, 0, out1, _, some (.int i), some (.str (mkS (tokW (.mark j)))), hlt, hg1, by lia, by rw [List.length_set]; exact hs1, by lia, by lia, fun y hy => (nomatch hy), hz3, rfl⟩
    · right
      have hi' : i = ts.length := by lia
      subst hi'
      rw [List.drop_length, rdGo] at hg1
      simp only [Prod.mk.injEq] at hg1
      obtain ⟨rfl, rfl⟩ := hg1
      rw [List.drop_length, List.nil_append]
      refine ⟨range_none (by lia), ?_⟩
      repeat walk_at "s"
      exact ⟨_, .drop (.refl _), q⟩
end
end
noncomputable section
structure LL (rl : Addr) (rs : List Addr) (vss : List (List V)) (H : AH) : Prop where
  top : (rl, AO.list (rs.map V.ref)) ∈ H
  len : rs.length = vss.length
  sub : ∀ (j : Nat) r vs, rs[j]? = some r → vss[j]? = some vs → (r, AO.list vs) ∈ H
theorem LL.to {rl : Addr} {rs : List Addr} {vss : List (List V)} {H H' : AH} (h : LL rl rs vss H) (k : ∀ p ∈ H, p ∈ H') : LL rl rs vss H' := ⟨k _ h.top, h.len, fun j r vs a b => k _ (h.sub j r vs a b)⟩
theorem LL.get {rl : Addr} {rs : List Addr} {vss : List (List V)} {H : AH} (h : LL rl rs vss H) {j : Nat} (hj : j < vss.length) : ∃ r, rs[j]? = some r ∧ (r, AO.list vss[j]) ∈ H :=
  ⟨rs[j]'(h.len ▸ hj), List.getElem?_eq_getElem _, h.sub j _ _ (List.getElem?_eq_getElem _) (List.getElem?_eq_getElem _)⟩
noncomputable def Rz : List Int → Int → Int
  | [], _ => 0
  | x :: l, z => x * (z + 1) ^ l.length + z * Rz l z
noncomputable def term (l : List Int) (z : Int) (i : Nat) : Int := l.getD i 0 * (z + 1) ^ (l.length - 1 - i) * z ^ i
theorem Rz_sum (z : Int) : ∀ l : List Int, ((List.range l.length).map (term l z)).sum = Rz l z
  | [] => rfl
  | x :: l => by
    have ih := Rz_sum z l
    rw [List.length_cons, List.range_succ_eq_map, List.map_cons, List.sum_cons, Rz]
    have e0 : term (x :: l) z 0 = x * (z + 1) ^ l.length := by simp [term]
    rw [e0, ← ih, List.map_map]
    congr 1
    have : ∀ (m : List Nat), (∀ i ∈ m, i < l.length) → (m.map (term (x :: l) z ∘ Nat.succ)).sum = z * (m.map (term l z)).sum := by
      intro m hm
      induction m with
      | nil => simp
      | cons i m ih =>
        rw [List.map_cons, List.sum_cons, List.map_cons, List.sum_cons, ih fun i hi => hm i (.tail _ hi), Int.mul_add]
        congr 1
        have hi := hm i (.head _)
        show term (x :: l) z (i + 1) = z * term l z i
        unfold term
        rw [List.getD_cons_succ, List.length_cons, show l.length + 1 - 1 - (i + 1) = l.length - 1 - i by lia, Int.pow_succ]
        grind
    exact this _ fun i hi => by simpa using hi
noncomputable def mulU (sz : Nat → Nat) (j t : Nat) (p : Int) : Nat → Int
  | 0 => p
  | k + 1 => mulU sz j t p k * ((j : Int) - (t + 1 + k : Nat) + 1) ^ (sz (t + 1 + k) - sz (t + k))
noncomputable def sumT (rows : List (List Int)) (j : Nat) : Nat → Int
  | 0 => 0
  | t + 1 => sumT rows j t + mulU (fun u => (rows.getD u []).length) j t (Rz (rows.getD t []).dropLast ((j : Int) - t)) (j - t)
noncomputable def lastG (rows : List (List Int)) (j : Nat) : Int := if (rows.getD j []).length > 1 then sumT rows j (j + 1) else (rows.getD j []).getD 0 0
structure RowsOk (rows : List (List Int)) : Prop where
  few : rows.length ≤ 4
  size : ∀ r ∈ rows, 1 ≤ r.length ∧ r.length ≤ 5
  up : ∀ i j, i ≤ j → j < rows.length → (rows.getD i []).length ≤ (rows.getD j []).length
  small : ∀ r ∈ rows, ∀ x ∈ r, x.natAbs ≤ 1000
theorem natAbs_pow_le {b : Int} {e k m : Nat} (hb : b.natAbs ≤ 2 ^ k) (he : e ≤ m) : (b ^ e).natAbs ≤ 2 ^ (k * m) := by
  rw [Int.natAbs_pow]
  calc b.natAbs ^ e ≤ (2 ^ k) ^ e := Nat.pow_le_pow_left hb e
    _ = 2 ^ (k * e) := by rw [Nat.pow_mul]
    _ ≤ 2 ^ (k * m) := Nat.pow_le_pow_right (by decide) (Nat.mul_le_mul_left _ he)
theorem natAbs_mul_le {a b : Int} {k l : Nat} (ha : a.natAbs ≤ 2 ^ k) (hb : b.natAbs ≤ 2 ^ l) : (a * b).natAbs ≤ 2 ^ (k + l) := by
  rw [Int.natAbs_mul, Nat.pow_add]
  exact Nat.mul_le_mul ha hb
theorem nsub_le {a b c d : Nat} (h1 : a ≤ b) (h2 : c ≤ d) : a - d ≤ b - c := Nat.le_trans (Nat.sub_le_sub_right h1 _) (Nat.sub_le_sub_left h2 _)
theorem term_le {l : List Int} {z : Nat} {i : Nat} (hl : l.length ≤ 4) (hz : z ≤ 3) (hs : ∀ x ∈ l, x.natAbs ≤ 1000) (hi : i < l.length) : (l[i] * ((z : Int) + 1) ^ (l.length - 1 - i)).natAbs ≤ 2 ^ 18 ∧ (term l z i).natAbs ≤ 2 ^ 26 := by
  have h0 : (l[i]).natAbs ≤ 2 ^ 10 := Nat.le_trans (hs _ (List.getElem_mem hi)) (by decide)
  have h1 : (((z : Int) + 1) ^ (l.length - 1 - i)).natAbs ≤ 2 ^ (2 * 4) := natAbs_pow_le (zp1 hz) (subs4 hl)
  have h2 : ((z : Int) ^ i).natAbs ≤ 2 ^ (2 * 4) := natAbs_pow_le (z0 hz) (Nat.le_trans (Nat.le_of_lt hi) hl)
  have h3 := natAbs_mul_le h0 h1
  refine ⟨h3, ?_⟩
  have h4 := natAbs_mul_le h3 h2
  have e : l.getD i 0 = l[i] := by rw [List.getD_eq_getElem?_getD, List.getElem?_eq_getElem hi]; rfl
  rw [term, e]
  exact h4
theorem powOk {x : Int} {e : Nat} (hx : x.natAbs < 8) (he : e ≤ 8) : (Builtin.Int.intBits x : Int) * (e : Int) ≤ 2 ^ 27 := by
  have h1 : Builtin.Int.intBits x ≤ 3 := intBits_le (k := 3) hx
  have h2 : Builtin.Int.intBits x * e ≤ 3 * 8 := Nat.mul_le_mul h1 he
  have h3 : ((Builtin.Int.intBits x * e : Nat) : Int) = (Builtin.Int.intBits x : Int) * (e : Int) := by push_cast; rfl
  rw [← h3]
  lia
theorem lt_of_le2 {x : Int} {k : Nat} (h : x.natAbs ≤ 2 ^ k) : x.natAbs < 2 ^ (k + 1) := Nat.lt_of_le_of_lt h (Nat.pow_lt_pow_right (by decide) (by lia))
theorem mapIdx_term (l : List Int) (z : Nat) : l.mapIdx (fun i x => V.int (x * ((z : Int) + 1) ^ (l.length - 1 - i) * (z : Int) ^ i)) = intVs ((List.range l.length).map (term l z)) := by
  refine List.ext_getElem (by simp) fun i h1 h2 => ?_
  simp only [List.getElem_mapIdx, List.getElem_map, List.getElem_range, term]
  have hi : i < l.length := by simpa using h1
  rw [List.getD_eq_getElem?_getD, List.getElem?_eq_getElem hi]; rfl
theorem rl_up2 {a b : Int} : rangeLen a b 1 = (b - a).toNat := by
  unfold rangeLen Builtin.Range.rangeSize
  by_cases h : a < b
  · simp only [h, if_true, show (1 : Int) > 0 by decide]; rw [Int.ediv_one]; congr 1; lia
  · simp only [h, if_false, show (1 : Int) > 0 by decide, if_true]; lia
theorem range2_some {a b : Nat} {i : Nat} {H : AH} (h : a + i < b) : rangeItem (a : Int) (b : Int) 1 i H (some (.int (a + i : Nat))) := by
  show _ = _
  rw [rl_up2, if_pos (by lia)]; show some (V.int _) = some (V.int _); congr 2; lia
theorem range2_none {a b : Nat} {i : Nat} {H : AH} (h : b ≤ a + i) : rangeItem (a : Int) (b : Int) 1 i H none := by
  show _ = _
  rw [rl_up2, if_neg (by lia)]
theorem mulU_le {sz : Nat → Nat} {j t : Nat} {p : Int} (hp : p.natAbs ≤ 2 ^ 28) (hj : j ≤ 3) (hsz : ∀ u, sz u ≤ 5) (h1 : ∀ u, u ≤ j → 1 ≤ sz u) : ∀ k, k ≤ j - t → (mulU sz j t p k).natAbs ≤ 2 ^ (28 + 8 * k)
  | 0, _ => hp
  | k + 1, h => by
    have ih := mulU_le (t := t) hp hj hsz h1 k (Nat.le_of_succ_le h)
    have ht : t + k < j := Nat.add_lt_of_lt_sub' h
    rw [mulU, show 28 + 8 * (k + 1) = (28 + 8 * k) + 2 * 4 from rfl]
    exact natAbs_mul_le ih (natAbs_pow_le (k := 2) (m := 4) (zp2 hj (by rw [Nat.add_right_comm]; exact ht)) (nsub_le (hsz _) (h1 _ (Nat.le_of_lt ht))))
section
variable {C : Cfg} {a : Ad} {A : Around} {H H' : AH} {Q : V → AH → Prop}
inductive LsT (rows : List (List Int)) (j : Nat) (rl c1 c2 c3 L : Addr) (H : AH) (i : Nat) (H₁ : AH) : Prop
  | mk (p u : Option V) (o1 o2 : Option V) (h1 : i ≤ j + 1) (e : H₁ = (c1, .cell o1) :: (c2, .cell o2) :: (c3, .cell (some (.int j))) :: (L, .ns ["rows", "total", "part", "u"] [some (.ref rl), some (.int (sumT rows j i)), p, u]) :: H) : LsT rows j rl c1 c2 c3 L H i H₁
inductive LsU (rows : List (List Int)) (j t : Nat) (p : Int) (rl c1 c2 c3 L : Addr) (s0 : Option V) (H : AH) (i : Nat) (H₁ : AH) : Prop
  | mk (u : Option V) (h1 : i ≤ j - t) (e : H₁ = (c1, .cell s0) :: (c2, .cell (some (.int t))) :: (c3, .cell (some (.int j))) :: (L, .ns ["rows", "total", "part", "u"] [some (.ref rl), some (.int (sumT rows j t)), some (.int (mulU (fun u => (rows.getD u []).length) j t p i)), u]) :: H) : LsU rows j t p rl c1 c2 c3 L s0 H i H₁
theorem sp_last {rl : Addr} {rs : List Addr} {rows : List (List Int)} {j : Nat} (W : W3 C a) (hr : Room A 3) (hR : RowsOk rows) (hL : LL rl rs (rows.map intVs) H) (hj : j < rows.length)
    (q : Q (.int (lastG rows j)) H) : WPC C A (.ref a.last) [.ref rl, .int j] Q H := by
  have G := W.G
  obtain ⟨cd, hF⟩ := W.last
  have hr4 := hR.few
  have hj3 : j ≤ 3 := Nat.le_of_lt_succ (Nat.lt_of_lt_of_le hj hr4)
  have hrs4 : rs.length ≤ 4 := by rw [hL.len, List.length_map]; exact hr4
  have hgd : ∀ {t}, (h : t < rows.length) → rows.getD t [] = rows[t] := fun h => by rw [List.getD_eq_getElem?_getD, List.getElem?_eq_getElem h]; rfl
  refine call_okC ok_last G (fun s R => hF.keeps R.keep) hr rfl rfl rfl (vals := [some (.ref rl), none, none, none]) rfl (VOk.get (.some .head (.rest rfl))) fun L cs A' env hcs hr' FE he => ?_
  obtain ⟨c1, c2, c3, rfl⟩ := cells3 hcs
  refine ⟨_, .other (.other (.param (.tail .head) .nil)), ?_⟩
  have hA := hr'.hd
  simp only [List.cons_append, List.nil_append]
  repeat walk_at "s"
  refine wp1_For (wpi_Call ?_)
  repeat walk_at "s"
  rw [show (j : Int) + 1 = ((j + 1 : Nat) : Int) from by push_cast; rfl]
  refine ci_range1 hA (by rw [Int.natAbs_natCast]; exact Nat.lt_of_le_of_lt (Nat.le_trans hj hr4) (by decide)) ?_
  refine ⟨LsT rows j rl c1 c2 c3 L H, j + 1, ?_, ?_⟩
  · exact ⟨none, none, none, none, Nat.zero_le _, rfl⟩
  · rintro t H₁ ⟨p, u, o1, o2, ht, rfl⟩
    by_cases hlt : t < j + 1
    · left
      refine ⟨.int t, hlt, range_some (Int.ofNat_lt.mpr hlt), ?_⟩
      have htr : t < rows.length := Nat.lt_of_le_of_lt (Nat.le_of_lt_succ hlt) hj
      have hsz := hR.size _ (List.getElem_mem htr)
      obtain ⟨r, hr1, hr2⟩ := hL.get (j := t) (by simpa using htr)
      rw [List.getElem_map] at hr2
      repeat walk_at "s"
      refine gi_list (v := .ref r) (.tail _ (.tail _ (.tail _ (.tail _ hL.top)))) (Int.natCast_nonneg _) (by rw [Int.toNat_natCast, List.getElem?_map, hr1]; rfl) (lm hrs4 (by decide)) ?_
      repeat walk_at "s"
      refine c_len_list (by walk_at "mem") (lm hsz.2 (by decide)) ?_
      rw [List.length_map]
      repeat walk_at "s"
      have FE0 := FE
      refine wp_LC (ln' := ["i", "one"]) (gn' := []) (fs := ["j", "size", "t"]) (cs := [c3, c1, c2]) FE (by walk_at "cp") (by decide +kernel) (by simp) ?_
      refine wpi_Call ?_
      repeat walk_at "s"
      refine gi_list (v := .ref r) (.tail _ (.tail _ (.tail _ (.tail _ hL.top)))) (Int.natCast_nonneg _) (by rw [Int.toNat_natCast, List.getElem?_map, hr1]; rfl) (lm hrs4 (by decide)) ?_
      repeat walk_at "s"
      refine gs_list (vs := intVs rows[t]) (by walk_at "mem") (by decide) (lm hsz.2 (by decide)) ?_
      intro b1
      rw [pySlice_init, ← List.map_dropLast]
      have hsm := hR.small _ (List.getElem_mem htr)
      generalize hl : rows[t].dropLast = l
      have hll : l.length = rows[t].length - 1 := by rw [← hl, List.length_dropLast]
      have hls : ∀ x ∈ l, x.natAbs ≤ 1000 := fun x hx => hsm x (List.dropLast_subset _ (hl ▸ hx))
      have hl4 : l.length ≤ 4 := by rw [hll]; exact Nat.sub_le_sub_right hsz.2 1
      have hz3 : j - t ≤ 3 := Nat.le_trans (Nat.sub_le _ _) hj3
      repeat walk_at "s"
      refine ci_enum_list hA (by walk_at "mem") ?_
      intro b c cenv FE
      replace FE : FEnv cenv c ["i", "one"] [("t", c2), ("size", c1), ("j", c3)] [] := FE
      have htj : t ≤ j := Nat.le_of_lt_succ hlt
      have ez : (j : Int) - (t : Int) = ((j - t : Nat) : Int) := csub htj
      refine turns_enumL (l := l) (g := V.int) (f := fun i x => V.int (x * ((j - t : Nat) + 1 : Int) ^ (l.length - 1 - i) * ((j - t : Nat) : Int) ^ i)) FE hA (Nat.le_trans hl4 (by decide)) (fun i x os acc h => enum_some (by walk_at "mem") (by rw [List.getElem?_map, h]; rfl)) (fun os acc => enum_none (by walk_at "mem") (by simp)) (fun i x hx acc => ?_) fun os => ?_
      · have hil := (List.getElem?_eq_some_iff.mp hx)
        obtain ⟨hil, rfl⟩ := hil
        obtain ⟨t1, t2⟩ := term_le (l := l) (z := j - t) hl4 hz3 hls hil
        repeat walk_at "s"
        rw [ez, show ((rows[t].length : Nat) : Int) - 2 - (i : Int) = ((l.length - 1 - i : Nat) : Int) from csub2 hll hil]
        refine op_pow_int (Int.natCast_nonneg _) (powOk (Nat.lt_of_le_of_lt (zp1 hz3) (by decide)) (Nat.le_trans (subs4 hl4) (by decide))) ?_
        rw [Int.toNat_natCast]
        refine op_mul_int (mulOk (k := 10) (l := 20) (Nat.lt_of_le_of_lt (hls _ (List.getElem_mem hil)) (by decide)) (lt_of_le2 (k := 8) (natAbs_pow_le (k := 2) (m := 4) (zp1 hz3) (subs4 hl4)) |> fun h => Nat.lt_of_lt_of_le h (by decide)) (by decide)) ?_
        repeat walk_at "s"
        rw [ez]
        refine op_pow_int (Int.natCast_nonneg _) (powOk (Nat.lt_of_le_of_lt (z0 hz3) (by decide)) (Nat.le_trans (Nat.le_of_lt hil) (Nat.le_trans hl4 (by decide)))) ?_
        rw [Int.toNat_natCast]
        refine op_mul_int (mulOk (k := 19) (l := 9) (lt_of_le2 t1) (lt_of_le2 (k := 8) (natAbs_pow_le (k := 2) (m := 4) (z0 hz3) (Nat.le_trans (Nat.le_of_lt hil) hl4))) (by decide)) ?_
        exact ⟨rfl, .refl _⟩
      · refine ⟨_, _, .head, ?_⟩
        have FE := FE0
        rw [mapIdx_term]
        repeat walk_at "s"
        refine c_sum hA (by walk_at "mem") (fun x hx => ?_) (by rw [List.length_map, List.length_range]; exact Nat.le_trans hl4 (by decide)) ?_
        · obtain ⟨i, hi, rfl⟩ := List.mem_map.mp hx
          have hi' : i < l.length := by simpa using hi
          exact Nat.le_trans (term_le hl4 hz3 hls hi').2 (by decide)
        rw [Rz_sum]
        repeat walk_at "s"
        refine wp1_mid (LsU rows j t (Rz l (j - t : Nat)) rl c1 c2 c3 L (some (.int rows[t].length)) H (j - t)) ?_ ?_
        · refine WP.sub (.drop (.drop (.refl _))) ?_
          have hsz5 : ∀ u, (rows.getD u []).length ≤ 5 := fun u => by
            rcases Nat.lt_or_ge u rows.length with h | h
            · rw [hgd h]; exact (hR.size _ (List.getElem_mem h)).2
            · rw [List.getD_eq_getElem?_getD, List.getElem?_eq_none h]; simp
          have hsz1 : ∀ u, u ≤ j → 1 ≤ (rows.getD u []).length := fun u h => by
            rw [hgd (Nat.lt_of_le_of_lt h hj)]; exact (hR.size _ (List.getElem_mem _)).1
          have hp28 : (Rz l (j - t : Nat)).natAbs ≤ 2 ^ 28 := by
            rw [← Rz_sum]
            have := sum_bound (B := 2 ^ 26) (xs := (List.range l.length).map (term l ((j - t : Nat) : Int))) fun x hx => by
              obtain ⟨i, hi, rfl⟩ := List.mem_map.mp hx
              have hi' : i < l.length := by simpa using hi
              exact (term_le hl4 hz3 hls hi').2
            refine Nat.le_trans this ?_
            rw [List.length_map, List.length_range]
            calc l.length * 2 ^ 26 ≤ 4 * 2 ^ 26 := Nat.mul_le_mul_right _ hl4
              _ = 2 ^ 28 := by decide
          refine wp1_For (wpi_Call ?_)
          repeat walk_at "s"
          rw [show (j : Int) + 1 = ((j + 1 : Nat) : Int) from by push_cast; rfl, show (t : Int) + 1 = ((t + 1 : Nat) : Int) from by push_cast; rfl]
          refine ci_range2 hA (by rw [Int.natAbs_natCast]; exact Nat.lt_of_le_of_lt (Nat.le_trans hlt (Nat.le_trans hj hr4)) (by decide)) (by rw [Int.natAbs_natCast]; exact Nat.lt_of_le_of_lt (Nat.le_trans hj hr4) (by decide)) ?_
          refine ⟨LsU rows j t (Rz l (j - t : Nat)) rl c1 c2 c3 L (some (.int rows[t].length)) H, j - t, ?_, ?_⟩
          · exact ⟨u, Nat.zero_le _, rfl⟩
          · rintro k H₁ ⟨u2, hk, rfl⟩
            by_cases hk2 : k < j - t
            · left
              have htk : t + k < j := Nat.add_lt_of_lt_sub' hk2
              have htk1 : t + 1 + k ≤ j := by rw [Nat.add_right_comm]; exact htk
              have ha : t + 1 + k < rows.length := Nat.lt_of_le_of_lt htk1 hj
              have hb : t + k < rows.length := Nat.lt_trans htk hj
              refine ⟨.int (t + 1 + k : Nat), hk2, range2_some (Nat.lt_succ_of_le htk1), ?_⟩
              have hml := mulU_le (sz := fun u => (rows.getD u []).length) (t := t) hp28 hj3 hsz5 hsz1 k hk
              generalize hmu : mulU (fun u => (rows.getD u []).length) j t (Rz l (j - t : Nat)) k = mu at hml ⊢
              obtain ⟨ra, hra1, hra2⟩ := hL.get (j := t + 1 + k) (by rw [List.length_map]; exact ha)
              obtain ⟨rb, hrb1, hrb2⟩ := hL.get (j := t + k) (by rw [List.length_map]; exact hb)
              rw [List.getElem_map] at hra2 hrb2
              have hsa := hR.size _ (List.getElem_mem ha)
              have hsb := hR.size _ (List.getElem_mem hb)
              have hup := hR.up (t + k) (t + 1 + k) (Nat.add_le_add_right (Nat.le_succ t) k) ha
              rw [hgd hb, hgd ha] at hup
              repeat walk_at "s"
              refine gi_list (v := .ref ra) (.tail _ (.tail _ (.tail _ (.tail _ hL.top)))) (Int.natCast_nonneg _) (by rw [Int.toNat_natCast, List.getElem?_map, hra1]; rfl) (lm hrs4 (by decide)) ?_
              repeat walk_at "s"
              refine c_len_list (.tail _ (.tail _ (.tail _ (.tail _ hra2)))) (lm hsa.2 (by decide)) ?_
              simp only [List.length_map]
              repeat walk_at "s"
              rw [tk1 t k]
              refine gi_list (v := .ref rb) (.tail _ (.tail _ (.tail _ (.tail _ hL.top)))) (Int.natCast_nonneg _) (by rw [Int.toNat_natCast, List.getElem?_map, hrb1]; rfl) (lm hrs4 (by decide)) ?_
              repeat walk_at "s"
              refine c_len_list (.tail _ (.tail _ (.tail _ (.tail _ hrb2)))) (lm hsb.2 (by decide)) ?_
              simp only [List.length_map]
              repeat walk_at "s"
              rw [show ((rows[t + 1 + k].length : Nat) : Int) - ((rows[t + k].length : Nat) : Int) = ((rows[t + 1 + k].length - rows[t + k].length : Nat) : Int) from csub hup]
              refine op_pow_int (Int.natCast_nonneg _) (powOk (by first | exact Nat.lt_of_le_of_lt (zp2 hj3 htk1) (by decide) | lia) (Nat.le_trans (Nat.sub_le _ _) (Nat.le_trans hsa.2 (by decide)))) ?_
              rw [Int.toNat_natCast]
              refine op_mul_int (mulOk (k := 28 + 8 * k + 1) (l := 9) (lt_of_le2 hml) (lt_of_le2 (k := 8) (natAbs_pow_le (k := 2) (m := 4) (by first | exact zp2 hj3 htk1 | (have : 2 ^ 2 = 4 := rfl; lia)) (nsub_le hsa.2 hsb.1))) (by lia)) ?_
              repeat walk_at "s"
              exact ⟨_, hk2, by rw [mulU, hmu, hgd ha, hgd hb]⟩
            · right
              refine ⟨range2_none (by lia), ?_⟩
              have : k = j - t := Nat.le_antisymm hk (Nat.le_of_not_lt hk2)
              subst this
              repeat walk_at "s"
              exact ⟨rfl, u2, Nat.le_refl _, rfl⟩
        · rintro H₁ ⟨u2, _, rfl⟩
          repeat walk_at "s"
          exact ⟨_, u2, _, _, hlt, by rw [sumT, hgd htr, hl, ez]⟩
    · right
      refine ⟨range_none (by lia), ?_⟩
      have : t = j + 1 := Nat.le_antisymm ht (Nat.le_of_not_lt hlt)
      subst this
      obtain ⟨r, hr1, hr2⟩ := hL.get (j := j) (by simpa using hj)
      rw [List.getElem_map] at hr2
      have hsz := hR.size _ (List.getElem_mem hj)
      repeat walk_at "s"
      refine gi_list (v := .ref r) (.tail _ (.tail _ (.tail _ (.tail _ hL.top)))) (Int.natCast_nonneg _) (by rw [Int.toNat_natCast, List.getElem?_map, hr1]; rfl) (lm hrs4 (by decide)) ?_
      repeat walk_at "s"
      refine gs_list (vs := intVs rows[j]) (.tail _ (.tail _ (.tail _ (.tail _ hr2)))) (by decide) (lm hsz.2 (by decide)) ?_
      intro b1
      rw [show pySlice (intVs rows[j]) (some 1) none none = (intVs rows[j]).drop 1 from pySlice_drop _ 1]
      refine tr_list (by walk_at "mem") (by simp; lia) ?_
      refine ⟨fun h => ?_, fun h => ?_⟩
      · have h' : rows[j].length > 1 := by simp at h; lia
        repeat walk_at "s"
        refine ⟨H, by walk_at "sub", ?_⟩
        rw [lastG, hgd hj, if_pos h'] at q
        exact q
      · have h' : ¬ rows[j].length > 1 := by simp at h; lia
        repeat walk_at "s"
        refine gi_list (v := .ref r) (.tail _ (.tail _ (.tail _ (.tail _ (.tail _ hL.top))))) (Int.natCast_nonneg _) (by rw [Int.toNat_natCast, List.getElem?_map, hr1]; rfl) (lm hrs4 (by decide)) ?_
        repeat walk_at "s"
        refine gi_list (v := .int (rows[j].getD 0 0)) (.tail _ (.tail _ (.tail _ (.tail _ (.tail _ hr2))))) (by decide) ?_ (by simp; lia) ?_
        · rw [List.getD_eq_getElem?_getD, List.getElem?_map, List.getElem?_eq_getElem (by show (0 : Int).toNat < _; simp; lia), List.getElem?_eq_getElem (by lia)]; rfl
        repeat walk_at "s"
        refine ⟨H, by walk_at "sub", ?_⟩
        rw [lastG, hgd hj, if_neg h'] at q
        exact q
end
end
noncomputable section
theorem neg_divmod {x : Int} {y : Nat} (hx : x < 0) (hy : 0 < y) : ((-x - 1).toNat / y : Nat) = -(x / y) - 1 ∧ ((-x - 1).toNat % y : Nat) = (y : Int) - 1 - x % y := by
  have e : (((-x - 1).toNat : Nat) : Int) = -x - 1 := by lia
  have h1 := Nat.div_add_mod (-x - 1).toNat y
  have h2 := Nat.mod_lt (-x - 1).toNat hy
  generalize (-x - 1).toNat / y = q at h1 ⊢
  generalize (-x - 1).toNat % y = r at h1 h2 ⊢
  have h3 : x = (y : Int) * (-(q : Int) - 1) + ((y : Int) - 1 - r) := by
    have : ((y * q + r : Nat) : Int) = -x - 1 := by rw [h1, e]
    push_cast at this
    rw [Int.mul_sub, Int.mul_neg, Int.mul_one]
    lia
  have h4 : x / (y : Int) = -(q : Int) - 1 ∧ x % (y : Int) = (y : Int) - 1 - r := by
    have hd := Int.ediv_emod_unique (a := x) (b := (y : Int)) (r := (y : Int) - 1 - r) (q := -(q : Int) - 1) (by lia)
    exact hd.mpr ⟨by lia, by lia, by lia⟩
  rw [h4.1, h4.2]
  lia
section
variable {C : Cfg} {a : Ad} {A : Around} {H H' : AH} {Q : V → AH → Prop}
theorem sp_divmodP (W : W3 C a) (hT : (a.pI2d, AO.tab "_int2digits.<locals>.inner") ∈ H) (hT2 : (a.pD2i, AO.tab "_digits2int.<locals>.inner") ∈ H) {x : Int} {y : Nat} (hr : Room A 24) (hy : 0 < y) (hx : x.natAbs < 2 ^ 2999) (hyb : y < 2 ^ 3000)
    (q : Q (.tup [.int (x / y), .int (x % y)]) H) : WPC C A (.ref a.idm) [.int x, .int y] Q H := by
  by_cases h0 : x < 0
  · have G := W.G
    obtain ⟨cd, hF⟩ := W.idm
    refine call_ok ok_int_divmod G (fnAt_of_base hF) hr rfl rfl (by walk_at "init") rfl rfl fun L cd A' env hr' hD FE he => ?_
    have hA := hr'.hd
    repeat walk_at "s"
    refine ⟨fun h => absurd h (by simp; lia), fun _ => ?_⟩
    repeat walk_at "s"
    refine ⟨fun h => absurd h (by simp), fun _ => ?_⟩
    repeat walk_at "s"
    refine ⟨fun _ => ?_, fun h => absurd h0 (of_decide_eq_false h)⟩
    repeat walk_at "s"
    refine wp1_Assign ?_
    repeat walk_at "s"
    refine op_inv_int ?_
    rw [show Builtin.bitNot x = (((-x - 1).toNat : Nat) : Int) from by show -x - 1 = _; lia]
    repeat walk_at "s"
    have hx2 : (-x - 1).toNat < 2 ^ 3000 := Nat.lt_of_le_of_lt (by lia) (Nat.lt_of_lt_of_le hx (Nat.pow_le_pow_right (by decide) (by decide)))
    refine sp_int_divmod W (by walk_at "mem") (by walk_at "mem") (hr'.mono (by decide)) hy hx2 hyb ?_
    obtain ⟨d1, d2⟩ := neg_divmod h0 hy
    rw [d1, d2]
    refine asg_Tuple hA (wpas_cons ?_)
    repeat walk_at "s"
    refine wpas_cons ?_
    repeat walk_at "s"
    refine wpas_nil ?_
    repeat walk_at "s"
    refine op_inv_int ?_
    repeat walk_at "s"
    refine op_inv_int ?_
    repeat walk_at "s"
    refine ⟨H, by walk_at "sub", ?_⟩
    have f1 : Builtin.bitNot (-(x / (y : Int)) - 1) = x / y := by show -(-(x / (y : Int)) - 1) - 1 = _; lia
    have f2 : (y : Int) + Builtin.bitNot ((y : Int) - 1 - x % y) = x % y := by show (y : Int) + (-((y : Int) - 1 - x % y) - 1) = _; lia
    show Q (.tup [.int _, .int _]) H
    rw [f1, f2]
    exact q
  · have e : x = ((x.toNat : Nat) : Int) := (Int.toNat_of_nonneg (Int.not_lt.mp (by assumption))).symm
    rw [e] at q ⊢
    exact sp_int_divmod W hT hT2 (hr.mono (by decide)) hy (Nat.lt_of_le_of_lt (by lia) (Nat.lt_of_lt_of_le hx (Nat.pow_le_pow_right (by decide) (by decide)))) hyb q
theorem sp_divmodN (W : W3 C a) (hT : (a.pI2d, AO.tab "_int2digits.<locals>.inner") ∈ H) (hT2 : (a.pD2i, AO.tab "_digits2int.<locals>.inner") ∈ H) {x : Int} {y : Nat} (hr : Room A 25) (hy : 0 < y) (hx : x.natAbs < 2 ^ 2999) (hyb : y < 2 ^ 3000)
    (q : Q (.tup [.int (x / y), .int (-(x % y))]) H) : WPC C A (.ref a.idm) [.int (-x), .int (-(y : Int))] Q H := by
  have G := W.G
  obtain ⟨cd, hF⟩ := W.idm
  refine call_ok ok_int_divmod G (fnAt_of_base hF) hr rfl rfl (by walk_at "init") rfl rfl fun L cd A' env hr' hD FE he => ?_
  have hA := hr'.hd
  repeat walk_at "s"
  refine ⟨fun h => absurd h (by simp; lia), fun _ => ?_⟩
  repeat walk_at "s"
  refine ⟨fun _ => ?_, fun h => absurd h (by simp; lia)⟩
  repeat walk_at "s"
  refine wp1_Assign ?_
  repeat walk_at "s"
  rw [Int.neg_neg, Int.neg_neg]
  refine sp_divmodP W (by walk_at "mem") (by walk_at "mem") (hr'.mono (by decide)) hy hx hyb ?_
  refine asg_Tuple hA (wpas_cons ?_)
  repeat walk_at "s"
  refine wpas_cons ?_
  repeat walk_at "s"
  refine wpas_nil ?_
  repeat walk_at "s"
  exact ⟨H, by walk_at "sub", q⟩
end
end
noncomputable section
noncomputable def figG : Nat → Int → List Int × Int
  | 0, n => ([], n)
  | k + 1, n => (((n + 2147483648) % 4294967297 - 2147483648) :: (figG k ((n + 2147483648) / 4294967297)).1, (figG k ((n + 2147483648) / 4294967297)).2)
noncomputable def aheadN (told row : List Int) : Int := d2i 32 told.tail.reverse - Rz row.dropLast 4294967296
noncomputable def aheadG (told row : List Int) : List Int := (figG row.dropLast.length (aheadN told row)).1 ++ [(figG row.dropLast.length (aheadN told row)).2]
theorem pySlice_tail_rev {α : Type} (l : List α) (h : l.length ≤ 5) : pySlice l none (some 0) (some (-1)) = l.tail.reverse := by
  match l, h with
  | [], _ => rfl
  | [_], _ => rfl
  | [_, _], _ => kernel_rfl
  | [_, _, _], _ => kernel_rfl
  | [_, _, _, _], _ => kernel_rfl
  | [_, _, _, _, _], _ => kernel_rfl
  | _ :: _ :: _ :: _ :: _ :: _ :: _, h => simp at h
theorem termB_le {l : List Int} {i : Nat} (hl : l.length ≤ 4) (hs : ∀ x ∈ l, x.natAbs ≤ 1000) (hi : i < l.length) : (l[i] * ((4294967296 : Int) + 1) ^ (l.length - 1 - i)).natAbs ≤ 2 ^ 142 ∧ (term l 4294967296 i).natAbs ≤ 2 ^ 270 := by
  have h0 : (l[i]).natAbs ≤ 2 ^ 10 := Nat.le_trans (hs _ (List.getElem_mem hi)) (by decide)
  have h1 : (((4294967296 : Int) + 1) ^ (l.length - 1 - i)).natAbs ≤ 2 ^ (33 * 4) := natAbs_pow_le (by decide) (by lia)
  have h2 : ((4294967296 : Int) ^ i).natAbs ≤ 2 ^ (32 * 4) := natAbs_pow_le (by decide) (by lia)
  have h3 := natAbs_mul_le h0 h1
  refine ⟨h3, ?_⟩
  have h4 := natAbs_mul_le h3 h2
  have e : l.getD i 0 = l[i] := by rw [List.getD_eq_getElem?_getD, List.getElem?_eq_getElem hi]; rfl
  rw [term, e]
  exact h4
noncomputable def subS (n : Int) (l : List Int) : Nat → Int
  | 0 => n
  | i + 1 => subS n l i - term l 4294967296 i
theorem subS_sum (n : Int) (l : List Int) : ∀ k, subS n l k = n - ((List.range k).map (term l 4294967296)).sum
  | 0 => by simp [subS]
  | k + 1 => by rw [subS, subS_sum n l k, List.range_succ, List.map_append, List.sum_append]; simp; lia
theorem subS_le {n : Int} {l : List Int} (hn : n.natAbs ≤ 2 ^ 270) (hl : l.length ≤ 4) (hs : ∀ x ∈ l, x.natAbs ≤ 1000) : ∀ k, k ≤ l.length → (subS n l k).natAbs ≤ (k + 1) * 2 ^ 270
  | 0, _ => by simpa [subS] using hn
  | k + 1, h => by
    have h1 := subS_le hn hl hs k (Nat.le_of_succ_le h)
    have h2 := (termB_le hl hs (show k < l.length from h)).2
    rw [subS, Nat.add_mul (k + 1) 1, Nat.one_mul]
    exact absS h1 h2
section
variable {C : Cfg} {a : Ad} {A : Around} {H H' : AH} {Q : V → AH → Prop}
theorem sp_divmodT (W : W3 C a) (hT : (a.pI2d, AO.tab "_int2digits.<locals>.inner") ∈ H) (hT2 : (a.pD2i, AO.tab "_digits2int.<locals>.inner") ∈ H) {tn x : Int} {y : Nat} (hr : Room A 25) (htn : tn = 1 ∨ tn = -1) (hy : 0 < y) (hx : x.natAbs < 2 ^ 2999) (hyb : y < 2 ^ 3000)
    (q : Q (.tup [.int (x / y), .int (tn * (x % y))]) H) : WPC C A (.ref a.idm) [.int (tn * x), .int (tn * y)] Q H := by
  rcases htn with rfl | rfl
  · rw [Int.one_mul, Int.one_mul]
    rw [Int.one_mul] at q
    exact sp_divmodP W hT hT2 (hr.mono (by decide)) hy hx hyb q
  · rw [Int.neg_one_mul, Int.neg_one_mul]
    rw [Int.neg_one_mul] at q
    exact sp_divmodN W hT hT2 hr hy hx hyb q
inductive AhS (n : Int) (l : List Int) (told row : Addr) (tn : Int) (sl L : Addr) (H : AH) (i : Nat) (H₁ : AH) : Prop
  | mk (o1 o2 : Option V) (h1 : i ≤ l.length) (e : H₁ = (sl, .list (intVs l)) :: (L, .ns ["told", "row", "turned", "number", "i", "one", "figures", "rest"] [some (.ref told), some (.ref row), some (.int tn), some (.int (subS n l i)), o1, o2, none, none]) :: H) : AhS n l told row tn sl L H i H₁
inductive AhF (n : Int) (l : List Int) (told row : Addr) (tn : Int) (sl fg L : Addr) (o1 : Option V) (H : AH) (i : Nat) (H₁ : AH) : Prop
  | mk (m : Int) (fs : List Int) (o2 o3 : Option V) (h1 : i ≤ l.length) (h2 : fs.length = i) (h3 : fs ++ (figG (l.length - i) m).1 = (figG l.length n).1) (h4 : (figG (l.length - i) m).2 = (figG l.length n).2) (h5 : m.natAbs < 2 ^ 300) (e : H₁ = (sl, .list (intVs l)) :: (fg, .list (intVs fs)) :: (L, .ns ["told", "row", "turned", "number", "i", "one", "figures", "rest"] [some (.ref told), some (.ref row), some (.int tn), some (.int m), o1, o2, some (.ref fg), o3]) :: H) : AhF n l told row tn sl fg L o1 H i H₁
theorem sp_ahead {tl rw : Addr} {told row : List Int} {tn : Int} (W : W3 C a) (hr : Room A 26) (hT : (a.pI2d, AO.tab "_int2digits.<locals>.inner") ∈ H) (hT2 : (a.pD2i, AO.tab "_digits2int.<locals>.inner") ∈ H) (htn : tn = 1 ∨ tn = -1)
    (hts : told.length ≤ 5) (ht0 : ∀ x ∈ told, x.natAbs < 2 ^ 32) (hrs : 1 ≤ row.length ∧ row.length ≤ 5) (hr0 : ∀ x ∈ row, x.natAbs ≤ 1000) (htl : (tl, AO.list (intVs told)) ∈ H) (hrw : (rw, AO.list (intVs row)) ∈ H)
    (q : ∀ r, Q (.ref r) ((r, .list (intVs (aheadG told row))) :: H)) : WPC C A (.ref a.ahead) [.ref tl, .ref rw, .int tn] Q H := by
  have G := W.G
  obtain ⟨cd, hF⟩ := W.ahead
  refine call_ok ok_ahead G (fnAt_of_base hF) hr rfl rfl (by walk_at "init") rfl rfl fun L cd A' env hr' hD FE he => ?_
  have hA := hr'.hd
  repeat walk_at "s"
  refine gs_list (by walk_at "mem") (by decide) (by simp; lia) ?_
  intro t1
  rw [show pySlice (intVs told) none (some 0) (some (-1)) = (told.tail.reverse).map V.int from by rw [pySlice_tail_rev _ (by simp; lia)]; simp]
  repeat walk_at "s"
  refine sp_digits2int (B := 32) W (hr'.mono (by decide)) (by decide) (fun d hd => ht0 d (List.mem_of_mem_tail (List.mem_reverse.mp hd))) (by simp; lia) (by simp; lia) (by walk_at "mem") (by walk_at "mem") ?_
  have hn0 := d2i_bound 32 32 told.tail.reverse (fun d hd => ht0 d (List.mem_of_mem_tail (List.mem_reverse.mp hd)))
  have hn1 : (d2i 32 told.tail.reverse).natAbs ≤ 2 ^ 270 := Nat.le_of_lt (Nat.lt_of_lt_of_le hn0 (Nat.pow_le_pow_right (by decide) (by simp; lia)))
  have haN : aheadN told row = d2i 32 told.tail.reverse - Rz row.dropLast 4294967296 := rfl
  generalize d2i 32 told.tail.reverse = n0 at hn0 hn1 haN ⊢
  repeat walk_at "s"
  refine WP.sub (.drop (.refl _)) ?_
  refine wp1_For (wpi_Call ?_)
  repeat walk_at "s"
  refine gs_list (vs := intVs row) (by walk_at "mem") (by decide) (by simp; lia) ?_
  intro sl
  rw [pySlice_init, ← List.map_dropLast]
  have hls0 : ∀ x ∈ row.dropLast, x.natAbs ≤ 1000 := fun x hx => hr0 x (List.dropLast_subset _ hx)
  have hll0 : row.dropLast.length = row.length - 1 := List.length_dropLast
  have hag : aheadG told row = (figG row.dropLast.length (aheadN told row)).1 ++ [(figG row.dropLast.length (aheadN told row)).2] := rfl
  rw [haN] at hag
  generalize hl : row.dropLast = l at hls0 hll0 hag ⊢
  have hl4 : l.length ≤ 4 := hll0 ▸ Nat.sub_le_sub_right hrs.2 1
  repeat walk_at "s"
  refine ci_enum_list hA (by walk_at "mem") ?_
  have hsum : subS n0 l l.length = n0 - Rz l 4294967296 := by rw [subS_sum, Rz_sum]
  refine ⟨AhS n0 l tl rw tn sl L H, l.length, ?_, ?_⟩
  · exact ⟨none, none, Nat.zero_le _, rfl⟩
  · rintro i H₁ ⟨o1, o2, hi, rfl⟩
    by_cases hlt : i < l.length
    · left
      refine ⟨.tup [.int i, .int l[i]], hlt, enum_some (by walk_at "mem") (by rw [List.getElem?_map, List.getElem?_eq_getElem hlt]; rfl), ?_⟩
      obtain ⟨b1, b2⟩ := termB_le hl4 hls0 hlt
      refine asg_Tuple hA (wpas_cons ?_)
      repeat walk_at "s"
      refine wpas_cons ?_
      repeat walk_at "s"
      refine wpas_nil ?_
      repeat walk_at "s"
      refine op_pow_int (by decide) (by decide +kernel) ?_
      rw [show ((2 : Int) ^ (32 : Int).toNat) = 4294967296 from by decide +kernel]
      repeat walk_at "s"
      refine c_len_list (vs := intVs row) (by walk_at "mem") (by simp; lia) ?_
      rw [List.length_map]
      repeat walk_at "s"
      rw [show ((row.length : Nat) : Int) - 2 - (i : Int) = ((l.length - 1 - i : Nat) : Int) from csub2 hll0 hlt]
      refine op_pow_int (Int.natCast_nonneg _) ?_ ?_
      · have : Builtin.Int.intBits (4294967296 + 1) = 33 := by decide +kernel
        rw [this]; exact pw27 (by decide) (Nat.le_trans (subs4 hl4) (by decide))
      rw [Int.toNat_natCast]
      refine op_mul_int (mulOk (k := 10) (l := 140) (Nat.lt_of_le_of_lt (hls0 _ (List.getElem_mem hlt)) (by decide)) (Nat.lt_of_le_of_lt (natAbs_pow_le (k := 33) (m := 4) (by decide) (subs4 hl4)) (Nat.pow_lt_pow_right (by decide) (by decide))) (by decide)) ?_
      repeat walk_at "s"
      refine op_mul_int (mulOk (k := 10) (l := 10) (by decide) (by rw [Int.natAbs_natCast]; exact Nat.lt_of_lt_of_le hlt (Nat.le_trans hl4 (by decide))) (by decide)) ?_
      rw [show (32 : Int) * (i : Int) = ((32 * i : Nat) : Int) from by push_cast; rfl]
      refine op_pow_int (Int.natCast_nonneg _) ?_ ?_
      · have : Builtin.Int.intBits 2 = 2 := by decide +kernel
        rw [this]; exact pw27 (by decide) (Nat.mul_le_mul_left 32 (Nat.le_trans (Nat.le_of_lt hlt) hl4))
      rw [Int.toNat_natCast, show (2 : Int) ^ (32 * i) = 4294967296 ^ i from by rw [Int.pow_mul]; rfl]
      refine op_mul_int (mulOk (k := 143) (l := 140) (lt_of_le2 b1) (Nat.lt_of_le_of_lt (natAbs_pow_le (k := 32) (m := 4) (by decide) (Nat.le_trans (Nat.le_of_lt hlt) hl4)) (Nat.pow_lt_pow_right (by decide) (by decide))) (by decide)) ?_
      repeat walk_at "s"
      refine ⟨some (.int i), some (.int l[i]), hlt, ?_⟩
      rw [subS, term, List.getD_eq_getElem?_getD, List.getElem?_eq_getElem hlt]; rfl
    · right
      have : i = l.length := Nat.le_antisymm hi (Nat.le_of_not_lt hlt)
      subst this
      refine ⟨enum_none (by walk_at "mem") (by simp), ?_⟩
      have hsb := subS_le hn1 hl4 hls0 l.length (Nat.le_refl _)
      rw [hsum] at hsb ⊢
      generalize n0 - Rz l 4294967296 = n at hsb hag ⊢
      have hn5 : n.natAbs < 2 ^ 300 := Nat.lt_of_le_of_lt hsb (by
        calc (l.length + 1) * 2 ^ 270 ≤ 5 * 2 ^ 270 := Nat.mul_le_mul_right _ (Nat.succ_le_succ hl4)
          _ < 2 ^ 300 := by decide +kernel)
      refine WP.sub (.drop (.refl _)) ?_
      repeat walk_at "s"
      intro fg
      repeat walk_at "s"
      refine wp1_For (wpi_value ?_)
      repeat walk_at "s"
      refine gs_list (vs := intVs row) (by walk_at "mem") (by decide) (by simp; lia) ?_
      intro sl
      rw [pySlice_init, ← List.map_dropLast, hl]
      repeat walk_at "s"
      refine pi_list hA (by walk_at "mem") ?_
      refine ⟨AhF n l tl rw tn sl fg L o1 H, l.length, ?_, ?_⟩
      · exact ⟨n, [], o2, none, Nat.zero_le _, rfl, by rw [Nat.sub_zero]; rfl, by rw [Nat.sub_zero], hn5, rfl⟩
      · rintro i H₁ ⟨m, fs, o3, o4, hi, hfs, hf1, hf2, hm5, rfl⟩
        by_cases hlt : i < l.length
        · left
          refine ⟨.int l[i], hlt, listItem_some (by walk_at "mem") (by rw [List.getElem?_map, List.getElem?_eq_getElem hlt]; rfl), ?_⟩
          have htn1 : tn.natAbs = 1 := by rcases htn with rfl | rfl <;> rfl
          rw [sub_s hlt, figG] at hf1 hf2
          repeat walk_at "s"
          refine wp1_Assign ?_
          repeat walk_at "s"
          refine op_pow_int (by decide) (by decide +kernel) ?_
          rw [show ((2 : Int) ^ (31 : Int).toNat) = 2147483648 from by decide +kernel]
          repeat walk_at "s"
          have hm6 : (m + 2147483648).natAbs < 2 ^ 301 := Nat.lt_of_le_of_lt (Int.natAbs_add_le _ _) (Nat.lt_of_lt_of_le (Nat.add_lt_add_right hm5 _) (by decide +kernel))
          refine op_mul_int (mulOk (k := 2) (l := 301) (by rw [htn1]; decide) hm6 (by decide)) ?_
          repeat walk_at "s"
          refine op_pow_int (by decide) (by decide +kernel) ?_
          rw [show ((2 : Int) ^ (32 : Int).toNat) = 4294967296 from by decide +kernel]
          repeat walk_at "s"
          refine op_mul_int (mulOk (k := 2) (l := 40) (by rw [htn1]; decide) (by decide) (by decide)) ?_
          rw [show (4294967296 : Int) + 1 = ((4294967297 : Nat) : Int) from rfl]
          repeat walk_at "s"
          refine sp_divmodT W (by walk_at "mem") (by walk_at "mem") (hr'.mono (by decide)) htn (by decide) (Nat.lt_of_lt_of_le hm6 (Nat.pow_le_pow_right (by decide) (by decide))) (Nat.lt_of_lt_of_le (show 4294967297 < 2 ^ 40 by decide) (Nat.pow_le_pow_right (by decide) (by decide))) ?_
          rw [show (((4294967297 : Nat) : Int)) = 4294967297 from rfl]
          refine asg_Tuple hA (wpas_cons ?_)
          repeat walk_at "s"
          refine wpas_cons ?_
          repeat walk_at "s"
          refine wpas_nil ?_
          repeat walk_at "s"
          refine wpm_append (by walk_at "mem") ?_
          repeat walk_at "s"
          refine op_mul_int (mulOk (k := 2) (l := 42) (by rw [htn1]; decide) (by rw [Int.natAbs_mul, htn1, Nat.one_mul]; exact mod42 _) (by decide)) ?_
          rw [show tn * (tn * ((m + 2147483648) % 4294967297)) = (m + 2147483648) % 4294967297 from by rcases htn with rfl | rfl <;> lia]
          repeat walk_at "s"
          refine op_pow_int (by decide) (by decide +kernel) ?_
          rw [show ((2 : Int) ^ (31 : Int).toNat) = 2147483648 from by decide +kernel]
          repeat walk_at "s"
          refine c_append (by walk_at "upd") (by simp; lia) ?_
          repeat walk_at "s"
          refine ⟨(m + 2147483648) / 4294967297, fs ++ [(m + 2147483648) % 4294967297 - 2147483648], some (.int l[i]), some (.int (tn * ((m + 2147483648) % 4294967297))), hlt, by simp [hfs], by rw [← hf1]; simp, hf2, ?_, by simp⟩
          have h1 : (2 : Nat) ^ 300 ≥ 2 ^ 40 := Nat.pow_le_pow_right (by decide) (by decide)
          have h2 : (2 : Nat) ^ 40 = 1099511627776 := by decide
          generalize (2 : Nat) ^ 300 = P at hm5 h1 ⊢
          lia
        · right
          have : i = l.length := Nat.le_antisymm hi (Nat.le_of_not_lt hlt)
          subst this
          rw [Nat.sub_self, figG] at hf1 hf2
          refine ⟨listItem_none (by walk_at "mem") (by simp), ?_⟩
          repeat walk_at "s"
          intro nl1
          repeat walk_at "s"
          refine op_add_list (by walk_at "mem") (by walk_at "mem") (by simp; lia) ?_
          intro rr
          rw [List.append_nil] at hf1
          rw [← hf1, ← hf2] at hag
          rw [show intVs fs ++ [V.int m] = intVs (aheadG told row) from by rw [hag]; simp]
          repeat walk_at "s"
          exact ⟨_, .pick .head (by walk_at "sub"), q rr⟩
end
end
noncomputable section
noncomputable def LB : List Stmt := cbody (nth PW.main.body 22)
noncomputable abbrev lawL : List Str := ["script", "number", "one", "drawn", "block", "j", "marks", "words", "cells", "mark", "text", "left", "word", "heard", "due", "row", "turn", "told", "longer"]
noncomputable abbrev lawG : List Str := ["_law_blocks", "range", "len", "zip", "_law_text", "list", "_law_reader", "_law_round", "enumerate", "_law_ahead"]
structure Tabs (a : Ad) (H : AH) : Prop where
  i2d : (a.pI2d, AO.tab "_int2digits.<locals>.inner") ∈ H
  d2i : (a.pD2i, AO.tab "_digits2int.<locals>.inner") ∈ H
  rd : (a.pReader, AO.tab "_law_reader.<locals>.<lambda>") ∈ H
theorem Tabs.to {a : Ad} {H H' : AH} (h : Tabs a H) (k : ∀ p ∈ H, p ∈ H') : Tabs a H' := ⟨k _ h.i2d, k _ h.d2i, k _ h.rd⟩
theorem Tabs.tl {a : Ad} {H : AH} {p : Addr × AO} (h : Tabs a H) : Tabs a (p :: H) := h.to fun _ h => .tail _ h
noncomputable def QL (a : Ad) : Fl → AH → Prop := fun fl H₁ => ∃ H₂, Sub H₂ H₁ ∧ fl.val = .bool true ∧ Tabs a H₂
theorem QL.mk {a : Ad} {H₁ : AH} (T : Tabs a H₁) : QL a (.ret (.bool true)) H₁ := ⟨H₁, .refl _, rfl, T⟩
noncomputable abbrev marksW (J : Nat) : List (List Nat) := (List.range J).map fun j => [97 + j]
structure ToldOk (rows tolds : List (List Int)) : Prop where
  len : tolds.length = rows.length
  same : ∀ j, j < rows.length → (tolds.getD j []).length = (rows.getD j []).length
  small : ∀ t ∈ tolds, ∀ z ∈ t, z.natAbs < 2 ^ 31
  head : ∀ j, j < rows.length → (tolds.getD j []).head? = (rows.getD j []).getLast?
  last : ∀ j, j < rows.length → (tolds.getD j []).getLast? = some (lastG rows j)
  ahead : ∀ j, 0 < j → j < rows.length → aheadG (tolds.getD j []) (rows.getD j []) = List.replicate ((rows.getD j []).length - (rows.getD (j - 1) []).length) 0 ++ (tolds.getD (j - 1) []).tail.reverse ++ [0]
structure After (C : Cfg) (a : Ad) (x dx pb sd rl ml cS cL cR : Addr) (fp : V) (n : Int) (o : Obj) (kvs : List (Str × Value)) (sts rrs : List Addr) (rows tolds : List (List Int)) (R : AH) : Prop where
  hx : (x, AO.obj (instObj a.cls dx)) ∈ R
  hd : (dx, AO.attrs (netA n fp pb)) ∈ R
  hs : ∀ (j : Nat) st t, sts[j]? = some st → tolds[j]? = some t → (st, AO.list (strVs (t.map zw))) ∈ R
  hsl : sts.length = tolds.length
  ho : (sd, AO.obj o) ∈ R
  D : DObj C o kvs
  sys : (sd == sysModules) = false
  key : ∀ j st, sts[j]? = some st → valueAt kvs (mkS [97 + j]) = some (.ref st)
  hr : LL rl rrs (rows.map intVs) R
  hm : (ml, AO.list (strVs (marksW rows.length))) ∈ R
  c1 : (cS, AO.cell (some (.ref sd))) ∈ R
  c2 : (cL, AO.cell (some (.ref x))) ∈ R
  c3 : (cR, AO.cell (some (.ref rl))) ∈ R
  T : Tabs a R
  rd : ∃ fpA fd rda cl ll, fp = .ref fpA ∧ Rd a x dx fpA fd rda cl ll pb R ∧ (ll, AO.list []) ∈ R ∧ pb ≠ ll
inductive LwJ (m : Nat) (vs us : List (Option V)) (L : Addr) (R : AH) (i : Nat) (H₁ : AH) : Prop
  | mk (u5 u18 : Option V) (h : i ≤ m) (e : H₁ = (L, .ns lawL (vs ++ u5 :: us ++ [u18])) :: R) : LwJ m vs us L R i H₁
section
variable {C : Cfg} {a : Ad} {A : Around} {R : AH} {env : Env} {L x dx pb sd rl ml cS cL cR : Addr} {fp : V} {n : Int} {o : Obj} {kvs : List (Str × Value)} {sts rrs : List Addr} {rows tolds : List (List Int)}
theorem After.to {R R' : AH} (h : After C a x dx pb sd rl ml cS cL cR fp n o kvs sts rrs rows tolds R) (k : ∀ p ∈ R, p ∈ R') : After C a x dx pb sd rl ml cS cL cR fp n o kvs sts rrs rows tolds R' :=
  ⟨k _ h.hx, k _ h.hd, fun j st t h1 h2 => k _ (h.hs j st t h1 h2), h.hsl, k _ h.ho, h.D, h.sys, h.key, h.hr.to k, k _ h.hm, k _ h.c1, k _ h.c2, k _ h.c3, h.T.to k, let ⟨b, c, d, e, f, g1, g2, g3, g4⟩ := h.rd; ⟨b, c, d, e, f, g1, ⟨k _ g2.x, k _ g2.fp, k _ g2.fd, k _ g2.rd, k _ g2.cl⟩, k _ g3, g4⟩⟩
theorem ref_get {rs : List Addr} {k : Nat} (h : k < rs.length) : (rs.map V.ref)[k]? = some (.ref (rs.getD k 0)) := by
  rw [List.getElem?_map, List.getD_eq_getElem?_getD, List.getElem?_eq_getElem h]; rfl
theorem getD_some {α : Type} {l : List α} {d : α} {j : Nat} (h : j < l.length) : l[j]? = some (l.getD j d) := by
  rw [List.getD_eq_getElem?_getD, List.getElem?_eq_getElem h]; rfl
theorem zw_item {t : List Int} {i : Nat} {z : Int} (h : t[i]? = some z) : (strVs (t.map zw))[i]? = some (.str (mkS (zw z))) := by
  simp only [List.getElem?_map, h, Option.map_some]
theorem lt100 {z : Int} (h : z.natAbs < 2 ^ 31) : z.natAbs < 16 ^ 100 := Nat.lt_of_lt_of_le h (by decide)
theorem zw_lt {z : Int} {c : Nat} (h : c ∈ zw z) : c < 0x110000 := by
  rcases List.mem_cons.mp h with h | h
  · subst h; split <;> decide
  · have := wordL_lt h; lia
theorem sh21 {n : Int} : SeqAt.shaped (.list [.list [], dS [], .int n]) = true :=
  (dok_list (n := 1) fun d hd => by
    simp only [List.mem_cons, List.not_mem_nil, or_false] at hd
    rcases hd with rfl | rfl | rfl
    · exact dok_list (by simp)
    · exact dok_str (by simp)
    · exact dok_int).shaped (by decide)
theorem part21 {v0 v1 v2 v3 v4 v5 v7 v8 v9 v11 v12 v13 v14 v15 v16 v18 : Option V} {tx : List Nat} {tl : Addr} {trs : List Addr} (W : W3 C a) (hr : Room A 40) (FE : FEnv env L lawL [("struck", cS), ("line", cL), ("rows", cR)] lawG)
    (hR : RowsOk rows) (hO : ToldOk rows tolds) (hF : After C a x dx pb sd rl ml cS cL cR fp (1 + nl tx) o kvs sts rrs rows tolds R) (hpb : (pb, AO.list []) ∈ R) (hLT : LL tl trs (tolds.map intVs) R) :
    WPS C A env (LB.drop 21) (QL a) ((L, .ns lawL [v0, v1, v2, v3, v4, v5, some (.ref ml), v7, v8, v9, some (.str (mkS tx)), v11, v12, v13, v14, v15, v16, some (.ref tl), v18]) :: R) := by
  have G := W.G
  have hA := hr.hd
  obtain ⟨hx, hd, hs, hsl, ho, D, sys, key, hLL, hm, m1, m2, m3, T, hrd⟩ := hF
  obtain ⟨fpA, fd, rda, cl, ll, rfl, hRd, hll, hne⟩ := hrd
  obtain ⟨K, hk⟩ := hole2_of_mem (a := ll) (b := dx) (x := .list (signVs [])) (y := .attrs (netA (1 + nl tx) (.ref fpA) pb)) (fun h => nomatch h) hll hd
  have hst : ∀ {p}, p ∈ R → p ≠ (ll, .list (signVs [])) → p ≠ (dx, .attrs (netA (1 + nl tx) (.ref fpA) pb)) → ∀ u v, p ∈ K u v := fun h h1 h2 u v => hk.stay u v h h1 h2
  have hRK : ∀ u v, Rd a x dx fpA fd rda cl ll pb (K u v) := fun u v => ⟨hst hRd.x (fun h => nomatch h) (fun h => nomatch h) u v, hst hRd.fp (fun h => nomatch h) (fun h => nomatch h) u v, hst hRd.fd (fun h => nomatch h) (fun h => nomatch h) u v, hst hRd.rd (fun h => nomatch h) (fun h => nomatch h) u v, hst hRd.cl (fun h => nomatch h) (fun h => nomatch h) u v⟩
  have hpK : ∀ u v, (pb, AO.list []) ∈ K u v := hst hpb (fun h => hne (Prod.mk.inj h).1) (fun h => nomatch h)
  refine wps_cons ?_
  repeat walk_at "s"
  refine ga_pb W (.tail _ hx) (.tail _ hd) ?_
  repeat walk_at "s"
  refine gm_get W (.tail _ hx) (.tail _ hd) ?_
  repeat walk_at "s"
  refine sp_get_rd (cs := []) W (hr.mono (by decide)) (.tail hk) (by simp) (fun u v => (hRK u v).cons _) (fun u v => .tail _ (hpK u v)) (tok := []) (cs' := []) (n' := 1 + nl tx) rfl ?_
  rw [← hk.eq]
  repeat walk_at "s"
  refine ga_line W (.tail _ hx) (.tail _ hd) ?_
  repeat walk_at "s"
  intro k1
  repeat walk_at "s"
  intro k2
  repeat walk_at "s"
  refine wpm_scount ?_
  repeat walk_at "s"
  refine c_scount ?_
  have e10 : ("\n" : Str) = ⟨#[10]⟩ := by decide +kernel
  rw [e10, count_sign]
  repeat walk_at "s"
  intro k3
  have eln : (1 : Int) + ((tx.count 10 : Nat) : Int) = 1 + nl tx := rfl
  rw [eln]
  refine op_eq_data (d := .list [.list [], dS [], .int (1 + nl tx)]) (e := .list [.list [], dS [], .int (1 + nl tx)])
    (dr_list (.tail _ (.tail _ (.head _))) (ds_cons (dr_list (.tail _ (.tail _ (.tail _ (.tail _ hpb)))) ds_nil) (ds_cons dr_str (ds_cons dr_int ds_nil))))
    (dr_list (.head _) (ds_cons (dr_list (.tail _ (.head _)) ds_nil) (ds_cons (by rw [← mkS_nil]; exact dr_str) (ds_cons dr_int ds_nil)))) ?_ ?_ hr.line ?_
  · exact sh21
  · exact sh21
  rw [eqv_cons, eqv_cons, eqv_cons, eqv_nil, eqv_str, eqv_int]
  simp only [decide_true, Bool.and_self]
  repeat walk_at "s"
  exact QL.mk (((T.tl).tl).tl.tl)
theorem part20 {v0 v1 v2 v3 v4 v5 v7 v8 v9 v11 v12 v13 v14 v15 v16 v18 : Option V} {tx : List Nat} {tl : Addr} {trs : List Addr} (W : W3 C a) (hr : Room A 40) (FE : FEnv env L lawL [("struck", cS), ("line", cL), ("rows", cR)] lawG)
    (hR : RowsOk rows) (hO : ToldOk rows tolds) (hF : After C a x dx pb sd rl ml cS cL cR fp (1 + nl tx) o kvs sts rrs rows tolds R) (hpb : (pb, AO.list []) ∈ R) (hLT : LL tl trs (tolds.map intVs) R) :
    WPS C A env (LB.drop 20) (QL a) ((L, .ns lawL [v0, v1, v2, v3, v4, v5, some (.ref ml), v7, v8, v9, some (.str (mkS tx)), v11, v12, v13, v14, v15, v16, some (.ref tl), v18]) :: R) := by
  have G := W.G
  have hA := hr.hd
  have hJ := hO.len
  have hJ4 := hR.few
  have hF0 := hF
  obtain ⟨hx, hd, hs, hsl, ho, D, sys, key, hLL, hm, m1, m2, m3, T, -⟩ := hF
  have htl := hLT.len
  have hrl := hLL.len
  rw [List.length_map] at htl hrl
  have hr4 : rrs.length ≤ 4 := by rw [hrl]; exact hJ4
  have ht4 : trs.length ≤ 4 := by rw [htl, hJ]; exact hJ4
  refine wps_cons (wp1_For (wpi_Call ?_))
  repeat walk_at "s"
  refine c_len_list (.tail _ hLL.top) (lm hr4 (by decide)) ?_
  rw [List.length_map, hrl]
  repeat walk_at "s"
  refine ci_range2 hA (by decide) (by rw [Int.natAbs_natCast]; exact Nat.lt_of_le_of_lt hJ4 (by decide)) ?_
  refine ⟨LwJ (rows.length - 1) [v0, v1, v2, v3, v4] [some (.ref ml), v7, v8, v9, some (.str (mkS tx)), v11, v12, v13, v14, v15, v16, some (.ref tl)] L R, rows.length - 1, ?_, ?_⟩
  · exact ⟨v5, v18, Nat.zero_le _, rfl⟩
  · rintro k H₁ ⟨u5, u18, hk, rfl⟩
    by_cases hlt : k < rows.length - 1
    · left
      have hj1 : k + 1 < rows.length := Nat.add_lt_of_lt_sub hlt
      have hk0 : k < rows.length := Nat.lt_of_succ_lt hj1
      have hj2 : 1 + k < rows.length := Nat.add_comm k 1 ▸ hj1
      refine ⟨.int (1 + k : Nat), hlt, range2_some (a := 1) hj2, ?_⟩
      have g1 : rows[1 + k]? = some (rows.getD (1 + k) []) := getD_some hj2
      have g2 : rows[k]? = some (rows.getD k []) := getD_some hk0
      have g3 : tolds[1 + k]? = some (tolds.getD (1 + k) []) := getD_some (by rw [hJ]; exact hj2)
      have g4 : tolds[k]? = some (tolds.getD k []) := getD_some (by rw [hJ]; exact hk0)
      have d1 := hLL.sub (1 + k) _ _ (getD_some (d := 0) (by rw [hrl]; exact hj2)) (by rw [List.getElem?_map, g1]; rfl)
      have d2 := hLL.sub k _ _ (getD_some (d := 0) (by rw [hrl]; exact hk0)) (by rw [List.getElem?_map, g2]; rfl)
      have d3 := hLT.sub (1 + k) _ _ (getD_some (d := 0) (by rw [htl, hJ]; exact hj2)) (by rw [List.getElem?_map, g3]; rfl)
      have d4 := hLT.sub k _ _ (getD_some (d := 0) (by rw [htl, hJ]; exact hk0)) (by rw [List.getElem?_map, g4]; rfl)
      have e1 := hR.size _ (List.mem_of_getElem? g1)
      have e2 := hR.size _ (List.mem_of_getElem? g2)
      have e3 := hR.up k (1 + k) (Nat.le_add_left _ _) hj2
      have e4 := hO.same (1 + k) hj2
      have e5 := hO.same k hk0
      have e6 := hO.ahead (1 + k) (Nat.add_pos_left (by decide) _) hj2
      have e7 : ∀ x ∈ tolds.getD (1 + k) [], x.natAbs < 2 ^ 32 := fun x hx => Nat.lt_trans (hO.small _ (List.mem_of_getElem? g3) x hx) (by decide)
      have e8 : ∀ x ∈ rows.getD (1 + k) [], x.natAbs ≤ 1000 := hR.small _ (List.mem_of_getElem? g1)
      rw [show 1 + k - 1 = k from Nat.add_sub_cancel_left ..] at e6
      generalize rows.getD (1 + k) [] = rj at d1 e1 e3 e4 e6 e8 ⊢
      generalize rows.getD k [] = rk at d2 e2 e3 e5 e6 ⊢
      generalize tolds.getD (1 + k) [] = tj at d3 e4 e6 e7 ⊢
      generalize tolds.getD k [] = tk at d4 e5 e6 ⊢
      simp only [List.cons_append, List.nil_append]
      repeat walk_at "s"
      refine gi_list (.tail _ hLL.top) (Int.natCast_nonneg _) (by rw [Int.toNat_natCast]; exact ref_get (by rw [hrl]; exact hj2)) (lm hr4 (by decide)) ?_
      repeat walk_at "s"
      refine c_len_list (vs := intVs rj) (.tail _ d1) (lm e1.2 (by decide)) ?_
      rw [List.length_map]
      repeat walk_at "s"
      rw [one_k k]
      refine gi_list (.tail _ hLL.top) (Int.natCast_nonneg _) (by rw [Int.toNat_natCast]; exact ref_get (by rw [hrl]; exact hk0)) (lm hr4 (by decide)) ?_
      repeat walk_at "s"
      refine c_len_list (vs := intVs rk) (.tail _ d2) (lm e2.2 (by decide)) ?_
      rw [List.length_map]
      repeat walk_at "s"
      rw [show ((rj.length : Nat) : Int) - ((rk.length : Nat) : Int) = ((rj.length - rk.length : Nat) : Int) from csub e3]
      repeat walk_at "s"
      refine gi_list (.tail _ hLT.top) (Int.natCast_nonneg _) (by rw [Int.toNat_natCast]; exact ref_get (by rw [htl, hJ]; exact hj2)) (lm ht4 (by decide)) ?_
      repeat walk_at "s"
      refine gi_list (.tail _ hLL.top) (Int.natCast_nonneg _) (by rw [Int.toNat_natCast]; exact ref_get (by rw [hrl]; exact hj2)) (lm hr4 (by decide)) ?_
      repeat walk_at "s"
      refine op_mod_int (by decide) ?_
      rw [show ((1 + k : Nat) : Int).fmod 2 = (((1 + k) % 2 : Nat) : Int) from fmod_nat _ 2]
      repeat walk_at "s"
      refine op_mul_int (mulOk (k := 2) (l := 2) (by decide) (by rw [Int.natAbs_natCast]; exact Nat.lt_trans (Nat.mod_lt _ (by decide)) (by decide)) (by decide)) ?_
      repeat walk_at "s"
      refine sp_ahead (told := tj) (row := rj) W (hr.mono (by decide)) (by have := T.i2d; walk_at "mem") (by have := T.d2i; walk_at "mem") (by lia) (by rw [e4]; exact e1.2) e7 e1 e8 (.tail _ d3) (.tail _ d1) ?_
      intro r1
      repeat walk_at "s"
      intro z1
      repeat walk_at "s"
      refine op_mul_list (by walk_at "mem") (Int.natCast_nonneg _) (Int.ofNat_le.mpr (Nat.le_trans (Nat.sub_le _ _) (Nat.le_trans e1.2 (by decide)))) ?_
      intro z2
      rw [Int.toNat_natCast]
      repeat walk_at "s"
      rw [one_k k]
      refine gi_list (.tail _ (.tail _ (.tail _ (.tail _ hLT.top)))) (Int.natCast_nonneg _) (by rw [Int.toNat_natCast]; exact ref_get (by rw [htl, hJ]; exact hk0)) (lm ht4 (by decide)) ?_
      repeat walk_at "s"
      refine gs_list (vs := intVs tk) (.tail _ (.tail _ (.tail _ (.tail _ d4)))) (by decide) (lm (e5 ▸ e2.2 : tk.length ≤ 5) (by decide)) ?_
      intro z3
      rw [pySlice_tail_rev _ (lm (e5 ▸ e2.2 : tk.length ≤ 5) (Nat.le_refl _))]
      repeat walk_at "s"
      refine op_add_list (by walk_at "mem") (by walk_at "mem") (by simp; lia) ?_
      intro z4
      repeat walk_at "s"
      intro z5
      repeat walk_at "s"
      refine op_add_list (by walk_at "mem") (by walk_at "mem") (by simp; lia) ?_
      intro z6
      have ez : List.replicate (rj.length - rk.length) (V.int 0) ++ (intVs tk).tail.reverse ++ [V.int 0] = intVs (aheadG tj rj) := by rw [e6]; simp
      rw [ez]
      refine op_ne_data (d := dIs (aheadG tj rj)) (e := dIs (aheadG tj rj)) (dr_ints (by walk_at "mem")) (dr_ints (by walk_at "mem")) ((dok_ints (n := 0)).shaped (by decide)) ((dok_ints (n := 0)).shaped (by decide)) hr.line ?_
      rw [eqv_ints, decide_eq_true rfl]
      repeat walk_at "s"
      refine ⟨fun h => (nomatch h), fun _ => ?_⟩
      refine WP.sub (H' := (L, _) :: R) (by walk_at "sub") ?_
      repeat walk_at "s"
      exact ⟨_, _, hlt, rfl⟩
    · right
      refine ⟨range2_none (a := 1) (by rw [Nat.add_comm]; exact Nat.le_add_of_sub_le (Nat.le_of_not_lt hlt)), ?_⟩
      refine wps_nil ?_
      exact part21 W hr FE hR hO hF0 hpb hLT
theorem eqv_trips {f : Nat → PyData} (h : ∀ j, PyData.eqv (f j) (f j) = true) (J : Nat) : PyData.eqv (.list ((List.range J).map f)) (.list ((List.range J).map f)) = true := eqv_list_self fun d hd => by
  obtain ⟨j, _, rfl⟩ := List.mem_map.mp hd
  exact h j
noncomputable abbrev trip3 (rows : List (List Int)) (j : Nat) : V := .tup [.int ((rows.getD j []).length : Nat), .int (((rows.getD j []).getLast?).getD 0), .int (lastG rows j)]
noncomputable abbrev dtrip3 (rows : List (List Int)) (j : Nat) : PyData := .tuple [.int ((rows.getD j []).length : Nat), .int (((rows.getD j []).getLast?).getD 0), .int (lastG rows j)]
theorem dr_trips {l : Addr} {H : AH} {J : Nat} (h : (l, AO.list ((List.range J).map (trip3 rows))) ∈ H) : DRel H (.list ((List.range J).map (dtrip3 rows))) (.ref l) :=
  dr_list h (ds_of (by simp) fun i d v h1 h2 => by
    simp only [List.getElem?_map, Option.map_eq_some_iff] at h1 h2
    obtain ⟨j, hj, rfl⟩ := h1
    obtain ⟨j', hj', rfl⟩ := h2
    rw [hj] at hj'; cases hj'
    exact dr_tup (ds_cons dr_int (ds_cons dr_int (ds_cons dr_int ds_nil))))
theorem trips_ok {J : Nat} : SeqAt.shaped (.list ((List.range J).map (dtrip3 rows))) = true :=
  (dok_list (n := 1) fun d hd => by
    obtain ⟨j, _, rfl⟩ := List.mem_map.mp hd
    refine dok_tup fun e he => ?_
    simp only [List.mem_cons, List.not_mem_nil, or_false] at he
    rcases he with rfl | rfl | rfl <;> exact dok_int).shaped (by decide)
theorem part19 {v0 v1 v2 v3 v4 v5 v7 v8 v9 v11 v12 v13 v14 v15 v16 v18 : Option V} {tx : List Nat} {tl : Addr} {trs : List Addr} (W : W3 C a) (hr : Room A 40) (FE : FEnv env L lawL [("struck", cS), ("line", cL), ("rows", cR)] lawG)
    (hR : RowsOk rows) (hO : ToldOk rows tolds) (hF : After C a x dx pb sd rl ml cS cL cR fp (1 + nl tx) o kvs sts rrs rows tolds R) (hpb : (pb, AO.list []) ∈ R) (hLT : LL tl trs (tolds.map intVs) R) :
    WPS C A env (LB.drop 19) (QL a) ((L, .ns lawL [v0, v1, v2, v3, v4, v5, some (.ref ml), v7, v8, v9, some (.str (mkS tx)), v11, v12, v13, v14, v15, v16, some (.ref tl), v18]) :: R) := by
  have G := W.G
  have hA := hr.hd
  have hJ := hO.len
  have hJ4 := hR.few
  have hF0 := hF
  obtain ⟨hx, hd, hs, hsl, ho, D, sys, key, hLL, hm, m1, m2, m3, T, -⟩ := hF
  have FE0 := FE
  have htl := hLT.len
  have hrl := hLL.len
  rw [List.length_map] at htl hrl
  have gR : ∀ {rs : List Addr} {i k : Nat}, rs.length = rows.length → (List.range rows.length)[i]? = some k → (rs.map V.ref)[i]? = some (.ref (rs.getD k 0)) := fun hl h => by
    obtain ⟨hk, rfl⟩ := List.getElem?_eq_some_iff.mp h
    rw [List.length_range] at hk
    rw [List.getElem_range, List.getElem?_map, getD_some (d := 0) (by rw [hl]; exact hk)]; rfl
  refine wps_cons (wp1_If (wpb_Compare (wp_LC (ln' := ["block"]) (gn' := ["len"]) (fs := []) (cs := []) FE (by walk_at "cp") (by decide +kernel) (by simp) ?_)))
  refine wpi_value ?_
  repeat walk_at "s"
  refine pi_list hA (.tail _ hLT.top) ?_
  intro al c cenv FE
  replace FE : FEnv cenv c ["block"] [] ["len"] := FE
  refine turns_mapL (l := List.range rows.length) (g := fun j => .ref (trs.getD j 0)) (f := trip3 rows) FE (by rw [List.length_range]; exact Nat.le_trans hJ4 (by decide)) (fun i k o acc h => listItem_some (.tail _ (.tail _ (.tail _ hLT.top))) (gR (htl.trans hJ) h)) (fun o acc => listItem_none (.tail _ (.tail _ (.tail _ hLT.top))) (by simp; lia)) (fun j hj acc => ?_) fun o => ?_
  · have hj2 : j < rows.length := by simpa using hj
    have htd : tolds[j]? = some (tolds.getD j []) := getD_some (by rw [hJ]; exact hj2)
    have n1 := hLT.sub j _ _ (getD_some (d := 0) (by rw [htl, hJ]; exact hj2)) (by rw [List.getElem?_map, htd]; rfl)
    have e1 := hO.same j hj2
    have e2 := hO.head j hj2
    have e3 := hO.last j hj2
    have e4 := hR.size _ (List.mem_of_getElem? (getD_some (d := []) hj2))
    obtain ⟨z, hz⟩ : ∃ z, (rows.getD j []).getLast? = some z := ⟨_, List.getLast?_eq_some_getLast (by intro e; rw [e] at e4; simp at e4)⟩
    rw [hz] at e2
    have et : (tolds.getD j []).length ≤ 5 ∧ 0 < (tolds.getD j []).length := by rw [e1]; exact ⟨e4.2, e4.1⟩
    generalize tolds.getD j [] = t at htd n1 e1 e2 e3 et ⊢
    generalize trs.getD j 0 = r1 at n1 ⊢
    repeat walk_at "s"
    refine c_len_list (vs := intVs t) (by walk_at "mem") (lm et.1 (by decide)) ?_
    rw [List.length_map]
    repeat walk_at "s"
    refine gi_list (vs := intVs t) (v := .int z) (by walk_at "mem") (by decide) (by show (intVs t)[0]? = _; rw [List.getElem?_map, ← List.head?_eq_getElem?, e2]; rfl) (lm et.1 (by decide)) ?_
    repeat walk_at "s"
    refine gi_list_neg (vs := intVs t) (v := .int (lastG rows j)) (by walk_at "mem") (by decide) (by rw [List.length_map]; exact neg1 et.2) ?_ (lm et.1 (by decide)) ?_
    · have e5 : (-1 + (((intVs t).length : Nat) : Int)).toNat = t.length - 1 := by rw [List.length_map]; exact last_ix et.2
      rw [e5, List.getElem?_map, ← List.getLast?_eq_getElem?, e3]; rfl
    repeat walk_at "s"
    exact ⟨by rw [e1, trip3, hz]; rfl, .refl _⟩
  · refine ⟨_, _, .head, ?_⟩
    have FE := FE0
    refine WP.sub (.pick (.tail .head) (.pick .head (.refl _))) ?_
    refine wp_LC (ln' := ["j", "row"]) (gn' := ["len", "_law_last"]) (fs := ["rows"]) (cs := [cR]) FE (by walk_at "cp") (by decide +kernel) (by simp) ?_
    refine wpi_Call ?_
    repeat walk_at "s"
    refine ci_enum_list hA (.tail _ (.tail _ hLL.top)) ?_
    intro bl c cenv FE
    replace FE : FEnv cenv c ["j", "row"] [("rows", cR)] ["len", "_law_last"] := FE
    refine turns_enumL (l := List.range rows.length) (g := fun j => .ref (rrs.getD j 0)) (f := fun i j => trip3 rows j) FE hA (by rw [List.length_range]; exact Nat.le_trans hJ4 (by decide)) (fun i k os acc h => enum_some (.tail _ (.tail _ (.tail _ (.tail _ hLL.top)))) (gR hrl h)) (fun os acc => enum_none (.tail _ (.tail _ (.tail _ (.tail _ hLL.top)))) (by simp; lia)) (fun i j hj acc => ?_) fun os => ?_
    · have hij : i = j := by
        obtain ⟨h1, h2⟩ := List.getElem?_eq_some_iff.mp hj
        rw [List.getElem_range] at h2; exact h2
      have hj2 : j < rows.length := by have := List.mem_of_getElem? hj; simpa using this
      subst hij
      have hrd : rows[i]? = some (rows.getD i []) := getD_some hj2
      have n1 := hLL.sub i _ _ (getD_some (d := 0) (by rw [hrl]; exact hj2)) (by rw [List.getElem?_map, hrd]; rfl)
      have e4 := hR.size _ (List.mem_of_getElem? hrd)
      obtain ⟨z, hz⟩ : ∃ z, (rows.getD i []).getLast? = some z := ⟨_, List.getLast?_eq_some_getLast (by intro e; rw [e] at e4; simp at e4)⟩
      have ht3 : trip3 rows i = .tup [.int ((rows.getD i []).length : Nat), .int z, .int (lastG rows i)] := by rw [trip3, hz]; rfl
      rw [ht3]
      generalize rrs.getD i 0 = r1 at n1 ⊢
      repeat walk_at "s"
      refine c_len_list (vs := intVs (rows.getD i [])) (.tail _ (.tail _ (.tail _ (.tail _ n1)))) (lm e4.2 (by decide)) ?_
      rw [List.length_map]
      repeat walk_at "s"
      refine gi_list_neg (vs := intVs (rows.getD i [])) (v := .int z) (.tail _ (.tail _ (.tail _ (.tail _ n1)))) (by decide) (by rw [List.length_map]; exact neg1 e4.1) ?_ (lm e4.2 (by decide)) ?_
      · have e5 : (-1 + (((intVs (rows.getD i [])).length : Nat) : Int)).toNat = (rows.getD i []).length - 1 := by rw [List.length_map]; exact last_ix e4.1
        rw [e5, List.getElem?_map, ← List.getLast?_eq_getElem?, hz]; rfl
      repeat walk_at "s"
      refine sp_last W (hr.mono (by decide)) hR (hLL.to fun p h => .tail _ (.tail _ (.tail _ (.tail _ h)))) hj2 ?_
      repeat walk_at "s"
      exact ⟨rfl, .refl _⟩
    · refine ⟨_, _, .head, ?_⟩
      have FE := FE0
      have ev : (List.range rows.length).mapIdx (fun i j => trip3 rows j) = (List.range rows.length).map (trip3 rows) := by
        refine List.ext_getElem (by simp) fun i h1 h2 => ?_
        simp only [List.getElem_mapIdx, List.getElem_map]
      rw [ev]
      refine op_ne_data (dr_trips (by walk_at "mem")) (dr_trips (by walk_at "mem")) trips_ok trips_ok hr.line ?_
      rw [eqv_trips fun j => eqv_tup_self fun d hd => by
        simp only [List.mem_cons, List.not_mem_nil, or_false] at hd
        rcases hd with rfl | rfl | rfl <;> exact eqv_int_self]
      repeat walk_at "s"
      refine ⟨fun h => (nomatch h), fun _ => ?_⟩
      refine WP.sub (.pick (.tail .head) (.drop (.drop (.refl _)))) ?_
      refine wps_nil ?_
      exact part20 W hr FE hR hO hF0 hpb hLT
theorem part18 {v0 v1 v2 v3 v4 v5 v7 v8 v9 v11 v12 v13 v14 v15 v16 v18 : Option V} {tx : List Nat} {tl : Addr} {trs : List Addr} (W : W3 C a) (hr : Room A 40) (FE : FEnv env L lawL [("struck", cS), ("line", cL), ("rows", cR)] lawG)
    (hR : RowsOk rows) (hO : ToldOk rows tolds) (hF : After C a x dx pb sd rl ml cS cL cR fp (1 + nl tx) o kvs sts rrs rows tolds R) (hpb : (pb, AO.list []) ∈ R) (hLT : LL tl trs (tolds.map intVs) R) :
    WPS C A env (LB.drop 18) (QL a) ((L, .ns lawL [v0, v1, v2, v3, v4, v5, some (.ref ml), v7, v8, v9, some (.str (mkS tx)), v11, v12, v13, v14, v15, v16, some (.ref tl), v18]) :: R) := by
  have G := W.G
  have hA := hr.hd
  have hJ := hO.len
  have hJ4 := hR.few
  have hF0 := hF
  obtain ⟨hx, hd, hs, hsl, ho, D, sys, key, hLL, hm, m1, m2, m3, T, -⟩ := hF
  have FE0 := FE
  have htl := hLT.len
  rw [List.length_map] at htl
  refine wps_cons (wp1_If (wpb_Compare (wp_LC (ln' := ["block"]) (gn' := []) (fs := []) (cs := []) FE (by walk_at "cp") (by decide +kernel) (by simp) ?_)))
  refine wpi_value ?_
  repeat walk_at "s"
  refine pi_list hA (.tail _ hLT.top) ?_
  intro al c cenv FE
  replace FE : FEnv cenv c ["block"] [] [] := FE
  have gR : ∀ {rs : List Addr} {i k : Nat}, rs.length = rows.length → (List.range rows.length)[i]? = some k → (rs.map V.ref)[i]? = some (.ref (rs.getD k 0)) := fun hl h => by
    obtain ⟨hk, rfl⟩ := List.getElem?_eq_some_iff.mp h
    rw [List.length_range] at hk
    rw [List.getElem_range, List.getElem?_map, getD_some (d := 0) (by lia)]; rfl
  refine turns_newL (l := List.range rows.length) (g := fun j => .ref (trs.getD j 0)) (f := fun j => (tolds.getD j []).map fun z => .str (mkS (zw z))) FE (by simp; lia) (fun i k o acc P hP h => listItem_some (.tail _ (.tail _ (hP _ (.tail _ hLT.top)))) (gR (by lia) h)) (fun o acc P hP => listItem_none (.tail _ (.tail _ (hP _ (.tail _ hLT.top)))) (by simp; lia)) (fun i j hj acc P hP => ?_) fun o rs hrs => ?_
  · have hj2 : j < rows.length := by have := List.mem_of_getElem? hj; simpa using this
    have htd : tolds[j]? = some (tolds.getD j []) := getD_some (by lia)
    have hmt : tolds.getD j [] ∈ tolds := List.mem_of_getElem? htd
    have hj5 : (tolds.getD j []).length ≤ 5 := by
      rw [hO.same j hj2]
      exact (hR.size _ (List.mem_of_getElem? (getD_some (d := []) hj2))).2
    have n1 := hP _ (.tail _ (hLT.sub j _ _ (getD_some (d := 0) (by lia)) (by rw [List.getElem?_map, htd]; rfl)))
    generalize tolds.getD j [] = t at htd hmt hj5 n1 ⊢
    generalize trs.getD j 0 = r1 at n1 ⊢
    refine wp_LC (ln' := ["one"]) (gn' := ["_law_own"]) (fs := []) (cs := []) FE (by walk_at "cp") (by decide +kernel) (by simp) ?_
    refine wpi_value ?_
    repeat walk_at "s"
    refine pi_list hA (.tail _ (.tail _ n1)) ?_
    intro b c2 cenv2 FE
    replace FE : FEnv cenv2 c2 ["one"] [] ["_law_own"] := FE
    refine turns_mapL (l := t) (g := V.int) (f := fun z => .str (mkS (zw z))) FE (by lia) (fun i k o acc h => listItem_some (.tail _ (.tail _ (.tail _ (.tail _ n1)))) (by rw [List.getElem?_map, h]; rfl)) (fun o acc => listItem_none (.tail _ (.tail _ (.tail _ (.tail _ n1)))) (by simp)) (fun z hz acc => ?_) fun o => ?_
    · repeat walk_at "s"
      refine sp_own W (hr.mono (by decide)) (lt100 (hO.small _ hmt z hz)) ?_
      exact ⟨rfl, .refl _⟩
    · exact ⟨_, _, .head, b, rfl, .pick (.tail .head) (.pick (.tail .head) (.pick .head (.refl _)))⟩
  · refine ⟨_, _, .head, ?_⟩
    have FE := FE0
    have ev : (List.range rows.length).map (fun j => (tolds.getD j []).map fun z => V.str (mkS (zw z))) = (tolds.map fun t => t.map zw).map strVs := by
      refine List.ext_getElem (by simp [hJ]) fun i h1 h2 => ?_
      simp only [List.getElem_map, List.getElem_range]
      rw [List.getD_eq_getElem?_getD, List.getElem?_eq_getElem (by simpa using h2)]; simp
    rw [ev]
    refine WP.sub (H' := (L, _) :: (al, .list (rs.map V.ref)) :: (nls rs ((tolds.map fun t => t.map zw).map strVs) ++ R)) (.pick (.tail .app) (.refl _)) ?_
    obtain ⟨R2, hR2⟩ : ∃ R2, R2 = (al, AO.list (rs.map V.ref)) :: (nls rs ((tolds.map fun t => t.map zw).map strVs) ++ R) := ⟨_, rfl⟩
    have k2 : ∀ p ∈ R, p ∈ R2 := fun p h => hR2 ▸ .tail _ (List.mem_append_right _ h)
    have a1 : (al, AO.list (rs.map V.ref)) ∈ R2 := hR2 ▸ .head _
    have a2 : ∀ (i : Nat) r ws, rs[i]? = some r → (tolds.map fun t => t.map zw)[i]? = some ws → (r, AO.list (strVs ws)) ∈ R2 := fun i r ws h1 h2 => hR2 ▸ .tail _ (nl_mem h1 (by rw [List.getElem?_map, h2]; rfl))
    rw [← hR2]
    clear hR2
    have n1 := k2 _ m1
    have n2 := k2 _ ho
    have n3 := k2 _ hm
    refine wp_LC (ln' := ["mark"]) (gn' := []) (fs := ["struck"]) (cs := [cS]) FE (by walk_at "cp") (by decide +kernel) (by simp) ?_
    refine wpi_value ?_
    repeat walk_at "s"
    refine pi_list hA (.tail _ n3) ?_
    intro bl c cenv FE
    replace FE : FEnv cenv c ["mark"] [("struck", cS)] [] := FE
    refine turns_mapL (l := List.range rows.length) (g := fun j => .str (mkS [97 + j])) (f := fun j => .ref (sts.getD j 0)) FE (by simp; lia) (fun i k o acc h => listItem_some (xs := strVs (marksW rows.length)) (.tail _ (.tail _ (.tail _ n3))) (by simp only [List.getElem?_map, h, Option.map_some])) (fun o acc => listItem_none (xs := strVs (marksW rows.length)) (.tail _ (.tail _ (.tail _ n3))) (by simp)) (fun j hj acc => ?_) fun o => ?_
    · have hj2 : j < rows.length := by simpa using hj
      repeat walk_at "s"
      refine gi_dict (.tail _ (.tail _ (.tail _ n2))) D (key j _ (getD_some (d := 0) (by lia))) ?_
      exact ⟨rfl, .refl _⟩
    · refine ⟨_, _, .head, ?_⟩
      have FE := FE0
      have ev2 : (List.range rows.length).map (fun j => V.ref (sts.getD j 0)) = sts.map V.ref := by
        refine List.ext_getElem (by simp; lia) fun i h1 h2 => ?_
        simp only [List.getElem_map, List.getElem_range]
        rw [List.getD_eq_getElem?_getD, List.getElem?_eq_getElem (by simpa using h2)]; rfl
      rw [ev2]
      refine op_ne_data (d := .list ((tolds.map fun t => t.map zw).map dSs)) (e := .list ((tolds.map fun t => t.map zw).map dSs)) (dr_lists (.tail _ (.tail _ a1)) (by simp at hrs ⊢; lia) fun i r ws h1 h2 => .tail _ (.tail _ (a2 i r ws h1 h2)))
        (dr_lists (.head _) (by simp; lia) fun i r ws h1 h2 => .tail _ (.tail _ (k2 _ ?_))) (dok_lists ?_) (dok_lists ?_) hr.line ?_
      · simp only [List.getElem?_map, Option.map_eq_some_iff] at h2
        obtain ⟨t, ht, rfl⟩ := h2
        exact hs i r t h1 ht
      · intro ws hws w hw c hc
        obtain ⟨t, ht, rfl⟩ := List.mem_map.mp hws
        obtain ⟨z, hz, rfl⟩ := List.mem_map.mp hw
        exact zw_lt hc
      · intro ws hws w hw c hc
        obtain ⟨t, ht, rfl⟩ := List.mem_map.mp hws
        obtain ⟨z, hz, rfl⟩ := List.mem_map.mp hw
        exact zw_lt hc
      rw [wzv_self]
      repeat walk_at "s"
      refine ⟨fun h => (nomatch h), fun _ => ?_⟩
      refine WP.sub (.pick (.tail .head) (.drop (.refl _))) ?_
      refine wps_nil ?_
      exact part19 W hr FE hR hO (hF0.to k2) (k2 _ hpb) (hLT.to k2)
theorem part17 {v0 v1 v2 v3 v4 v5 v7 v8 v9 v11 v12 v13 v14 v15 v16 v17 v18 : Option V} {tx : List Nat} (W : W3 C a) (hr : Room A 40) (FE : FEnv env L lawL [("struck", cS), ("line", cL), ("rows", cR)] lawG)
    (hR : RowsOk rows) (hO : ToldOk rows tolds) (hF : After C a x dx pb sd rl ml cS cL cR fp (1 + nl tx) o kvs sts rrs rows tolds R) (hpb : (pb, AO.list []) ∈ R) :
    WPS C A env (LB.drop 17) (QL a) ((L, .ns lawL [v0, v1, v2, v3, v4, v5, some (.ref ml), v7, v8, v9, some (.str (mkS tx)), v11, v12, v13, v14, v15, v16, v17, v18]) :: R) := by
  have G := W.G
  have hA := hr.hd
  have hJ := hO.len
  have hJ4 := hR.few
  have hF0 := hF
  obtain ⟨hx, hd, hs, hsl, ho, D, sys, key, hLL, hm, m1, m2, m3, T, -⟩ := hF
  have FE0 := FE
  refine wps_cons (wp1_LC (ln' := ["mark"]) (gn' := []) (fs := ["struck"]) (cs := [cS]) FE (by walk_at "cp") (by decide +kernel) (by simp) (by walk_at "mem") (by decide +kernel) ?_)
  refine wpi_value ?_
  repeat walk_at "s"
  refine pi_list hA (by walk_at "mem") ?_
  intro tl c cenv FE
  replace FE : FEnv cenv c ["mark"] [("struck", cS)] [] := FE
  refine turns_newL (l := List.range rows.length) (g := fun j => .str (mkS [97 + j])) (f := fun j => intVs (tolds.getD j [])) FE (by simp; lia) (fun i k o acc P hP h => listItem_some (l := ml) (xs := strVs (marksW rows.length)) (.tail _ (.tail _ (hP _ (.tail _ hm)))) (by simp only [List.getElem?_map, h, Option.map_some])) (fun o acc P hP => listItem_none (xs := strVs (marksW rows.length)) (.tail _ (.tail _ (hP _ (.tail _ hm)))) (by simp)) (fun i j hj acc P hP => ?_) fun o rs hrs => ?_
  · have hj2 : j < rows.length := by have := List.mem_of_getElem? hj; simpa using this
    have hst : sts[j]? = some (sts.getD j 0) := getD_some (by lia)
    have htd : tolds[j]? = some (tolds.getD j []) := getD_some (by lia)
    have hmt : tolds.getD j [] ∈ tolds := List.mem_of_getElem? htd
    have hj5 : (tolds.getD j []).length ≤ 5 := by
      rw [hO.same j hj2]
      have := (hR.size _ (List.mem_of_getElem? (getD_some (d := []) hj2))).2
      exact this
    have n1 := hP _ (.tail _ m1)
    have n2 := hP _ (.tail _ ho)
    have n3 := hP _ (.tail _ (hs j _ _ hst htd))
    have n4 := hP _ (.tail _ T.d2i)
    generalize tolds.getD j [] = t at htd hmt hj5 n3 ⊢
    refine wp_LC (ln' := ["word"]) (gn' := ["_law_number"]) (fs := []) (cs := []) FE (by walk_at "cp") (by decide +kernel) (by simp) ?_
    refine wpi_value ?_
    repeat walk_at "s"
    refine gi_dict (.tail _ (.tail _ n2)) D (key j _ hst) ?_
    refine pi_list hA (.tail _ (.tail _ n3)) ?_
    intro b c2 cenv2 FE
    replace FE : FEnv cenv2 c2 ["word"] [] ["_law_number"] := FE
    refine turns_mapL (l := t) (g := fun z => .str (mkS (zw z))) (f := V.int) FE (by lia) (fun i k o acc h => listItem_some (.tail _ (.tail _ (.tail _ (.tail _ n3)))) (zw_item h)) (fun o acc => listItem_none (.tail _ (.tail _ (.tail _ (.tail _ n3)))) (by simp)) (fun z hz acc => ?_) fun o => ?_
    · repeat walk_at "s"
      refine sp_number W (hr.mono (by decide)) (lt100 (hO.small _ hmt z hz)) (by walk_at "mem") ?_
      exact ⟨rfl, .refl _⟩
    · exact ⟨_, _, .head, b, rfl, .pick (.tail .head) (.pick (.tail .head) (.pick .head (.refl _)))⟩
  · have FE := FE0
    refine store_local FE (.tail (.tail (.app .head))) (by walk_at "put") ?_
    refine ⟨_, _, .head, ?_⟩
    have ev : (List.range rows.length).map (fun j => intVs (tolds.getD j [])) = tolds.map intVs := by
      refine List.ext_getElem (by simp [hJ]) fun i h1 h2 => ?_
      simp only [List.getElem_map, List.getElem_range]
      rw [List.getD_eq_getElem?_getD, List.getElem?_eq_getElem (by simpa using h2)]; rfl
    rw [ev]
    refine wps_next ?_
    refine WP.sub (H' := (L, _) :: (tl, .list (rs.map V.ref)) :: (nls rs (tolds.map intVs) ++ R)) (.pick (.tail .app) (.refl _)) ?_
    refine part18 W hr FE hR hO (After.to hF0 fun p h => .tail _ (List.mem_append_right _ h)) (.tail _ (List.mem_append_right _ hpb)) ⟨.head _, by simpa [hJ] using hrs, fun j r vs h1 h2 => .tail _ (nl_mem h1 h2)⟩
end
end
noncomputable section
noncomputable def psum (c : Int) : List Int → List Int
  | [] => []
  | x :: l => (c + x) :: psum (c + x) l
theorem psum_len (c : Int) (l : List Int) : (psum c l).length = l.length := by
  induction l generalizing c with
  | nil => rfl
  | cons x l ih => simp [psum, ih]
theorem psum_last (c : Int) (l : List Int) (h : l ≠ []) : (psum c l).getLast? = some (c + l.sum) := by
  induction l generalizing c with
  | nil => exact absurd rfl h
  | cons x l ih =>
    by_cases h2 : l = []
    · subst h2; simp [psum]
    · rw [psum, List.getLast?_cons, ih (c + x) h2, List.sum_cons]; simp; lia
noncomputable def pz : List Int → Int → Int
  | [], _ => 0
  | x :: u, z => x * z ^ u.length + pz u z
theorem pz_snoc (z : Int) (x : Int) : ∀ u : List Int, pz (u ++ [x]) z = pz u z * z + x
  | [] => by simp [pz]
  | y :: u => by
    rw [List.cons_append, pz, pz_snoc z x u, pz, List.length_append, List.length_singleton, Int.pow_succ]
    grind
theorem pz_app0 (z : Int) (u : List Int) : ∀ m : Nat, pz (u ++ List.replicate m 0) z = z ^ m * pz u z
  | 0 => by simp
  | m + 1 => by
    rw [List.replicate_succ', ← List.append_assoc, pz_snoc, pz_app0 z u m, Int.pow_succ]
    grind
noncomputable def ev : List Int → List Int → List Int
  | _, [] => []
  | l, c :: cs => l.getLast?.toList ++ ev (psum c l.dropLast) cs
noncomputable def oc : List Int → List Int → List Int
  | _, [] => []
  | l, c :: cs => (c + l.dropLast.sum) :: oc (psum c l.dropLast) cs
noncomputable def evs : List (List Int) → List Int → List (List Int)
  | [], _ => []
  | l :: ls, cs => ev l cs :: evs ls (oc l cs)
noncomputable def rndB (c : Int) : List (List Int) → List (List Int)
  | [] => []
  | l :: ls => psum c l.dropLast :: rndB (c + l.dropLast.sum) ls
theorem evs_round (cs : List Int) : ∀ (bl : List (List Int)) (c : Int), evs bl (c :: cs) = List.zipWith (fun l t => l.getLast?.toList ++ t) bl (evs (rndB c bl) cs)
  | [], _ => rfl
  | l :: ls, c => by
    rw [evs, ev, oc, evs_round _ ls, rndB, evs, List.zipWith_cons_cons]
theorem ev_nil (cs : List Int) : ev [] cs = [] := by
  induction cs with
  | nil => rfl
  | cons c cs ih => rw [ev]; exact ih
theorem oc_nil (cs : List Int) : oc [] cs = cs := by
  induction cs with
  | nil => rfl
  | cons c cs ih => rw [oc]; simp only [List.dropLast_nil, List.sum_nil, Int.add_zero, psum]; rw [ih]
theorem getLast_toList {l : List Int} (h : l ≠ []) : l.getLast?.toList = [l.getLast h] := by rw [List.getLast?_eq_some_getLast h]; rfl
theorem ev_len : ∀ (cs l : List Int), l.length ≤ cs.length → (ev l cs).length = l.length
  | [], l, h => by have : l = [] := by simpa using h
                   subst this; rfl
  | c :: cs, l, h => by
    by_cases h0 : l = []
    · subst h0; rw [ev_nil]
    · rw [ev, getLast_toList h0, List.singleton_append, List.length_cons, ev_len cs _ (by rw [psum_len, List.length_dropLast]; simp at h; lia), psum_len, List.length_dropLast]
      have := List.length_pos_iff.mpr h0
      lia
theorem ev_head {c : Int} {cs l : List Int} (h : l ≠ []) : (ev l (c :: cs)).head? = l.getLast? := by
  rw [ev, getLast_toList h, List.getLast?_eq_some_getLast h]; rfl
theorem psum_split (z : Int) : ∀ (m : List Int) (c : Int), m ≠ [] → (psum c m).getLast?.getD 0 * z ^ (m.length - 1) + Rz (psum c m).dropLast z = Rz m z + c * (z + 1) ^ (m.length - 1)
  | [], _, h => absurd rfl h
  | [x], c, _ => by simp [psum, Rz]; lia
  | x :: y :: m, c, _ => by
    have ih := psum_split z (y :: m) (c + x) (by simp)
    have e1 : (psum c (x :: y :: m)).getLast? = (psum (c + x) (y :: m)).getLast? := by simp [psum]
    have e2 : (psum c (x :: y :: m)).dropLast = (c + x) :: (psum (c + x) (y :: m)).dropLast := by simp [psum]
    have e3 : ((psum (c + x) (y :: m)).dropLast).length = m.length := by rw [List.length_dropLast, psum_len]; simp
    rw [e1, e2, Rz, e3, Rz]
    simp only [List.length_cons, Nat.add_sub_cancel] at ih ⊢
    generalize (psum (c + x) (y :: m)).getLast?.getD 0 = p at ih ⊢
    generalize Rz (psum (c + x) (y :: m)).dropLast z = q at ih ⊢
    generalize Rz (y :: m) z = r at ih ⊢
    rw [Int.pow_succ, Int.pow_succ]
    generalize (z + 1) ^ m.length = w at ih ⊢
    generalize z ^ m.length = v at ih ⊢
    have : p * (v * z) + ((c + x) * w + z * q) = z * (p * v + q) + (c + x) * w := by grind
    rw [this, ih]
    grind
theorem ev_poly (z : Int) : ∀ (cs l : List Int), l ≠ [] → l.length ≤ cs.length → pz (ev l cs).tail z = Rz l.dropLast z + pz (cs.take (l.length - 1)) (z + 1)
  | [], l, h, h2 => absurd (by simpa using h2) h
  | c :: cs, l, h, h2 => by
    rw [ev, getLast_toList h, List.singleton_append, List.tail_cons]
    by_cases h1 : l.dropLast = []
    · have hl : l.length = 1 := by
        have := List.length_dropLast (xs := l); rw [h1] at this
        have := List.length_pos_iff.mpr h
        simp at *; lia
      rw [h1, hl]; simp [psum, ev_nil, pz, Rz]
    · have hp : psum c l.dropLast ≠ [] := by
        intro e; have := psum_len c l.dropLast; rw [e] at this; exact h1 (List.length_eq_zero_iff.mp this.symm)
      have hdl := List.length_dropLast (xs := l)
      have hpos := List.length_pos_iff.mpr h1
      have hlen : (psum c l.dropLast).length ≤ cs.length := by rw [psum_len, hdl]; simp at h2; lia
      have ih := ev_poly z cs (psum c l.dropLast) hp hlen
      have hs := psum_split z l.dropLast c h1
      obtain ⟨c2, cs2, rfl⟩ : ∃ c2 cs2, cs = c2 :: cs2 := by
        cases cs with
        | nil => rw [psum_len] at hlen; simp at hlen; simp [hlen] at hpos
        | cons a b => exact ⟨a, b, rfl⟩
      have he : ev (psum c l.dropLast) (c2 :: cs2) = (psum c l.dropLast).getLast?.getD 0 :: (ev (psum c l.dropLast) (c2 :: cs2)).tail := by
        rw [ev, getLast_toList hp, List.getLast?_eq_some_getLast hp]; rfl
      have hel := ev_len (c2 :: cs2) (psum c l.dropLast) hlen
      rw [he, pz, ih, List.length_tail, hel, psum_len]
      have ht : (c :: c2 :: cs2).take (l.length - 1) = c :: (c2 :: cs2).take (l.dropLast.length - 1) := by
        rw [show l.length - 1 = (l.dropLast.length - 1) + 1 by lia]; rfl
      rw [ht, pz, List.length_take]
      rw [show min (l.dropLast.length - 1) (c2 :: cs2).length = l.dropLast.length - 1 by rw [psum_len] at hlen; lia]
      lia
theorem oc_eq : ∀ (cs l : List Int), l ≠ [] → l.length ≤ cs.length → oc l cs = (ev l cs).tail ++ cs.drop (l.length - 1)
  | [], l, h, h2 => absurd (by simpa using h2) h
  | c :: cs, l, h, h2 => by
    rw [ev, getLast_toList h, List.singleton_append, List.tail_cons, oc]
    by_cases h1 : l.dropLast = []
    · have hl : l.length = 1 := by
        have := List.length_dropLast (xs := l); rw [h1] at this
        have := List.length_pos_iff.mpr h
        simp at *; lia
      rw [h1, hl]; simp [psum, ev_nil, oc_nil]
    · have hp : psum c l.dropLast ≠ [] := by
        intro e; have := psum_len c l.dropLast; rw [e] at this; exact h1 (List.length_eq_zero_iff.mp this.symm)
      have hdl := List.length_dropLast (xs := l)
      have hpos := List.length_pos_iff.mpr h1
      have hlen : (psum c l.dropLast).length ≤ cs.length := by rw [psum_len, hdl]; simp at h2; lia
      have ih := oc_eq cs (psum c l.dropLast) hp hlen
      obtain ⟨c2, cs2, rfl⟩ : ∃ c2 cs2, cs = c2 :: cs2 := by
        cases cs with
        | nil => rw [psum_len] at hlen; simp at hlen; simp [hlen] at hpos
        | cons a b => exact ⟨a, b, rfl⟩
      have he : ev (psum c l.dropLast) (c2 :: cs2) = (c + l.dropLast.sum) :: (ev (psum c l.dropLast) (c2 :: cs2)).tail := by
        rw [ev, psum_last c _ h1]; rfl
      rw [ih, psum_len, show l.length - 1 = (l.dropLast.length - 1) + 1 by lia, List.drop_succ_cons]
      conv => rhs; rw [he]
      rfl
end
noncomputable section
noncomputable def prevT (u : List Int) (ts : List (List Int)) : Nat → List Int
  | 0 => u
  | j + 1 => (ts.getD j []).tail
theorem evs_chain (N : Nat) : ∀ (bl : List (List Int)) (u : List Int), u.length + 1 ≤ N → (∀ l ∈ bl, u.length + 1 ≤ l.length ∧ l.length ≤ N) → bl.Pairwise (fun l m => l.length ≤ m.length) →
    ∀ j, j < bl.length → ((evs bl (u ++ List.replicate (N - u.length) 0)).getD j []).length = (bl.getD j []).length ∧
      ((evs bl (u ++ List.replicate (N - u.length) 0)).getD j []).head? = (bl.getD j []).getLast? ∧
      (prevT u (evs bl (u ++ List.replicate (N - u.length) 0)) j).length + 1 ≤ (bl.getD j []).length ∧
      ∀ z, pz ((evs bl (u ++ List.replicate (N - u.length) 0)).getD j []).tail z = Rz (bl.getD j []).dropLast z +
        (z + 1) ^ ((bl.getD j []).length - 1 - (prevT u (evs bl (u ++ List.replicate (N - u.length) 0)) j).length) * pz (prevT u (evs bl (u ++ List.replicate (N - u.length) 0)) j) (z + 1)
  | [], u, _, _, _, j, hj => absurd hj (by simp)
  | l :: ls, u, hu, hl, hp, j, hj => by
    obtain ⟨l1, l2⟩ := hl l (.head _)
    have hlne : l ≠ [] := by intro e; subst e; simp at l1
    generalize hcs : u ++ List.replicate (N - u.length) 0 = cs
    have hcl : cs.length = N := by rw [← hcs]; simp; lia
    have hln : l.length ≤ cs.length := by lia
    rw [evs]
    cases j with
    | zero =>
      simp only [List.getD_cons_zero, prevT]
      refine ⟨ev_len cs l hln, ?_, by lia, fun z => ?_⟩
      · obtain ⟨c, cs2, rfl⟩ : ∃ c cs2, cs = c :: cs2 := by
          cases cs with
          | nil => simp at hcl; lia
          | cons a b => exact ⟨a, b, rfl⟩
        exact ev_head hlne
      · rw [ev_poly z cs l hlne hln]
        have : cs.take (l.length - 1) = u ++ List.replicate (l.length - 1 - u.length) 0 := by
          rw [← hcs, List.take_append, List.take_of_length_le (Nat.le_sub_of_add_le l1), List.take_replicate]
          congr 2; exact Nat.min_eq_left (Nat.sub_le_sub_right (Nat.le_trans (Nat.sub_le _ _) l2) _)
        rw [this, pz_app0]
    | succ j =>
      have hoc := oc_eq cs l hlne hln
      have hel := ev_len cs l hln
      have htl : (ev l cs).tail.length = l.length - 1 := by rw [List.length_tail, hel]
      have hoc2 : oc l cs = (ev l cs).tail ++ List.replicate (N - (ev l cs).tail.length) 0 := by
        rw [hoc, htl]
        congr 1
        rw [← hcs, List.drop_append, List.drop_eq_nil_of_le (Nat.le_sub_of_add_le l1), List.nil_append, List.drop_replicate]
        congr 1; rw [Nat.sub_sub, Nat.add_sub_cancel' (Nat.le_sub_of_add_le l1)]
      rw [hoc2]
      have hl1 := Nat.sub_add_cancel (Nat.le_trans (Nat.le_add_left 1 _) l1)
      have ih := evs_chain N ls (ev l cs).tail (by rw [htl, hl1]; exact l2) (fun m hm => ⟨by rw [htl, hl1]; exact (List.pairwise_cons.mp hp).1 m hm, (hl m (.tail _ hm)).2⟩) (List.pairwise_cons.mp hp).2 j (by simpa using hj)
      rw [List.getD_cons_succ, List.getD_cons_succ]
      have hpv : prevT u (ev l cs :: evs ls ((ev l cs).tail ++ List.replicate (N - (ev l cs).tail.length) 0)) (j + 1) = prevT (ev l cs).tail (evs ls ((ev l cs).tail ++ List.replicate (N - (ev l cs).tail.length) 0)) j := by
        cases j with
        | zero => rfl
        | succ j => rfl
      rw [hpv]
      exact ih
theorem evs_len : ∀ (bl : List (List Int)) (cs : List Int), (evs bl cs).length = bl.length
  | [], _ => rfl
  | l :: ls, cs => by rw [evs, List.length_cons, evs_len ls, List.length_cons]
theorem d2i_pz : ∀ u : List Int, d2i 32 u.reverse = pz u 4294967296
  | [] => rfl
  | x :: u => by
    rw [List.reverse_cons, d2i_append, d2i_pz u, pz, List.length_reverse, d2i, d2i]
    have : (2 : Int) ^ (32 * u.length) = 4294967296 ^ u.length := by rw [Int.pow_mul]; rfl
    rw [this]; grind
theorem figG_pz : ∀ (k : Nat) (v : List Int), v.length = k → (∀ x ∈ v, x.natAbs ≤ 2147483648) → figG k (pz v 4294967297) = (v.reverse, 0)
  | 0, v, h, _ => by have : v = [] := by simpa using h
                     subst this; rfl
  | k + 1, v, h, hv => by
    obtain ⟨w, x, rfl⟩ : ∃ w x, v = w ++ [x] := ⟨v.dropLast, v.getLast (by intro e; subst e; simp at h), (List.dropLast_concat_getLast _).symm⟩
    have hx := hv x (by simp)
    rw [pz_snoc, figG]
    have e1 : (pz w 4294967297 * 4294967297 + x + 2147483648) / 4294967297 = pz w 4294967297 := by lia
    have e2 : (pz w 4294967297 * 4294967297 + x + 2147483648) % 4294967297 - 2147483648 = x := by lia
    rw [e1, e2, figG_pz k w (by simpa using h) fun y hy => hv y (by simp [hy])]
    simp
theorem bound_psum {M : Nat} : ∀ (l : List Int) (c : Int), (∀ x ∈ l, x.natAbs ≤ M) → (∀ y ∈ psum c l, y.natAbs ≤ c.natAbs + l.length * M) ∧ (c + l.sum).natAbs ≤ c.natAbs + l.length * M
  | [], c, _ => by simp [psum]
  | x :: l, c, h => by
    have hx := h x (.head _)
    obtain ⟨h1, h2⟩ := bound_psum l (c + x) fun y hy => h y (.tail _ hy)
    have hm : (x :: l).length * M = M + l.length * M := by rw [List.length_cons, Nat.add_mul, Nat.one_mul]; exact Nat.add_comm _ _
    have hc : (c + x).natAbs ≤ c.natAbs + M := absA (Nat.le_refl _) hx
    have h3 : (c + x).natAbs + l.length * M ≤ c.natAbs + (M + l.length * M) := by rw [← Nat.add_assoc]; exact Nat.add_le_add_right hc _
    rw [hm]
    refine ⟨fun y hy => ?_, by rw [List.sum_cons, ← Int.add_assoc]; exact Nat.le_trans h2 h3⟩
    rcases List.mem_cons.mp hy with rfl | hy
    · exact Nat.le_trans hc (Nat.add_le_add_left (Nat.le_add_right _ _) _)
    · exact Nat.le_trans (h1 y hy) h3
noncomputable def tot (bl : List (List Int)) : Nat := (bl.map List.length).sum
theorem tot_cons (l : List Int) (ls : List (List Int)) : tot (l :: ls) = l.length + tot ls := by simp [tot]
theorem bound_rnd {M : Nat} : ∀ (bl : List (List Int)) (c : Int), (∀ l ∈ bl, ∀ x ∈ l, x.natAbs ≤ M) → ∀ l ∈ rndB c bl, ∀ y ∈ l, y.natAbs ≤ c.natAbs + tot bl * M
  | [], _, _, l, hl, _, _ => nomatch hl
  | l0 :: ls, c, h, l, hl, y, hy => by
    obtain ⟨h1, h2⟩ := bound_psum (M := M) l0.dropLast c fun x hx => h l0 (.head _) x (List.dropLast_subset _ hx)
    have hd : l0.dropLast.length * M ≤ l0.length * M := Nat.mul_le_mul_right _ (by rw [List.length_dropLast]; exact Nat.sub_le _ _)
    rw [tot_cons, Nat.add_mul]
    rcases List.mem_cons.mp hl with rfl | hl
    · exact Nat.le_trans (h1 y hy) (Nat.add_le_add_left (Nat.le_trans hd (Nat.le_add_right _ _)) _)
    · refine Nat.le_trans (bound_rnd ls _ (fun m hm => h m (.tail _ hm)) l hl y hy) ?_
      rw [← Nat.add_assoc]; exact Nat.add_le_add_right (Nat.le_trans h2 (Nat.add_le_add_left hd _)) _
theorem tot_rnd : ∀ (bl : List (List Int)) (c : Int), tot (rndB c bl) ≤ tot bl
  | [], _ => Nat.le_refl _
  | l :: ls, c => by
    rw [rndB, tot_cons, tot_cons, psum_len, List.length_dropLast]
    exact Nat.add_le_add (Nat.sub_le _ _) (tot_rnd ls (c + l.dropLast.sum))
theorem evs_nil_at : ∀ (bl : List (List Int)) (cs : List Int) (j : Nat), bl[j]? = some [] → (evs bl cs)[j]? = some []
  | [], _, _, h => by simp at h
  | l :: ls, cs, 0, h => by simp at h; subst h; simp [evs, ev_nil]
  | l :: ls, cs, j + 1, h => by rw [evs, List.getElem?_cons_succ]; exact evs_nil_at ls _ j (by simpa using h)
theorem rnd_nil_at : ∀ (bl : List (List Int)) (c : Int) (j : Nat), bl[j]? = some [] → (rndB c bl)[j]? = some []
  | [], _, _, h => by simp at h
  | l :: ls, c, 0, h => by simp at h; subst h; simp [rndB, psum]
  | l :: ls, c, j + 1, h => by rw [rndB, List.getElem?_cons_succ]; exact rnd_nil_at ls _ j (by simpa using h)
theorem bound_evs : ∀ (n : Nat) (bl : List (List Int)) (M : Nat), (∀ l ∈ bl, ∀ x ∈ l, x.natAbs ≤ M) → tot bl ≤ 20 → ∀ (j k : Nat) t x, (evs bl (List.replicate n 0))[j]? = some t → t[k]? = some x → x.natAbs ≤ M * 20 ^ k
  | 0, bl, M, _, _, j, k, t, x, h1, h2 => by
    exfalso
    have : ∀ (bl : List (List Int)) (j : Nat) t, (evs bl [])[j]? = some t → t = [] := by
      intro bl
      induction bl with
      | nil => intro j t h; simp [evs] at h
      | cons l ls ih =>
        intro j t h
        rw [evs, ev, oc] at h
        cases j with
        | zero => simp at h; exact h
        | succ j => exact ih j t (by simpa using h)
    rw [this bl j t h1] at h2
    simp at h2
  | n + 1, bl, M, hb, ht, j, k, t, x, h1, h2 => by
    rw [List.replicate_succ, evs_round, List.getElem?_zipWith] at h1
    have hlen := evs_len (rndB 0 bl) (List.replicate n 0)
    cases hbj : bl[j]? with
    | none => rw [hbj] at h1; simp at h1
    | some l =>
      cases htj : (evs (rndB 0 bl) (List.replicate n 0))[j]? with
      | none => rw [hbj, htj] at h1; simp at h1
      | some t' =>
        rw [hbj, htj] at h1
        simp only [Option.some.injEq] at h1
        subst h1
        have hM20 : M * 20 ^ 1 = 20 * M := by lia
        have hb2 : ∀ l ∈ rndB 0 bl, ∀ x ∈ l, x.natAbs ≤ 20 * M := fun l hl x hx => by
          have := bound_rnd bl 0 hb l hl x hx
          have : tot bl * M ≤ 20 * M := Nat.mul_le_mul_right _ ht
          lia
        have ih := bound_evs n (rndB 0 bl) (20 * M) hb2 (Nat.le_trans (tot_rnd bl 0) ht) j
        cases hl : l.getLast? with
        | none =>
          rw [hl] at h2
          have := ih k t' x htj (by simpa using h2)
          have hle : l = [] := by simpa using hl
          subst hle
          rw [evs_nil_at _ _ _ (rnd_nil_at _ _ _ hbj)] at htj
          cases htj
          simp at h2
        | some y =>
          rw [hl] at h2
          cases k with
          | zero =>
            simp at h2; subst h2
            simpa using hb l (List.mem_of_getElem? hbj) y (List.mem_of_getLast? hl)
          | succ k =>
            have := ih k t' x htj (by simpa using h2)
            rw [Nat.pow_succ]
            calc x.natAbs ≤ 20 * M * 20 ^ k := this
              _ = M * (20 ^ k * 20) := by rw [Nat.mul_comm 20 M, Nat.mul_assoc, Nat.mul_comm 20]
end
noncomputable section
noncomputable def sgS (rows : List (List Int)) (j i : Nat) : Nat → Int
  | 0 => 0
  | t + 1 => sgS rows j i t + mulU (fun u => (rows.getD u []).length) j t (Rz (rows.getD t []).dropLast ((j : Int) - t)) (i - t)
theorem sgS_sumT (rows : List (List Int)) (j : Nat) : ∀ t, sgS rows j j t = sumT rows j t
  | 0 => rfl
  | t + 1 => by rw [sgS, sumT, sgS_sumT rows j t]
theorem sgS_step (rows : List (List Int)) (j i : Nat) : ∀ t, t ≤ i + 1 → sgS rows j (i + 1) t = sgS rows j i t * ((j : Int) - (i + 1 : Nat) + 1) ^ ((rows.getD (i + 1) []).length - (rows.getD i []).length)
  | 0, _ => by simp [sgS]
  | t + 1, h => by
    rw [sgS, sgS, sgS_step rows j i t (by lia), show i + 1 - t = (i - t) + 1 by lia, mulU, show t + 1 + (i - t) = i + 1 by lia, show t + (i - t) = i by lia, Int.add_mul]
theorem pz_zero {u : List Int} (h : u ≠ []) : some (pz u 0) = u.getLast? := by
  obtain ⟨w, x, rfl⟩ : ∃ w x, u = w ++ [x] := ⟨u.dropLast, u.getLast h, (List.dropLast_concat_getLast _).symm⟩
  rw [pz_snoc]; simp
theorem told_ok {rows : List (List Int)} (hR : RowsOk rows) {N : Nat} (hN : ∀ l ∈ rows, l.length ≤ N) (h1 : 1 ≤ N) : ToldOk rows (evs rows (List.replicate N 0)) := by
  have hup : rows.Pairwise (fun l m => l.length ≤ m.length) := by
    rw [List.pairwise_iff_getElem]
    intro i j hi hj hij
    have := hR.up i j (by lia) hj
    rw [List.getD_eq_getElem?_getD, List.getD_eq_getElem?_getD, List.getElem?_eq_getElem hi, List.getElem?_eq_getElem hj] at this
    exact this
  have ch := evs_chain N rows [] (by simpa using h1) (fun l hl => ⟨by simpa using (hR.size l hl).1, hN l hl⟩) hup
  simp only [List.nil_append, List.length_nil, Nat.sub_zero] at ch
  have hlen := evs_len rows (List.replicate N 0)
  have htot : tot rows ≤ 20 := by
    have : ∀ ls : List (List Int), (∀ l ∈ ls, l.length ≤ 5) → tot ls ≤ 5 * ls.length := by
      intro ls h
      induction ls with
      | nil => simp [tot]
      | cons l ls ih =>
        rw [tot_cons, List.length_cons]
        have := ih fun m hm => h m (.tail _ hm)
        have := h l (.head _)
        lia
    have h5 := this rows fun l hl => (hR.size l hl).2
    have := hR.few
    lia
  have hb := bound_evs N rows 1000 hR.small htot
  generalize hT : evs rows (List.replicate N 0) = T at ch hlen hb
  have hsmall : ∀ t ∈ T, ∀ z ∈ t, z.natAbs < 2 ^ 31 := by
    intro t ht z hz
    obtain ⟨j, hj⟩ := List.getElem?_of_mem ht
    obtain ⟨k, hk⟩ := List.getElem?_of_mem hz
    have hjl : j < rows.length := by have := (List.getElem?_eq_some_iff.mp hj).1; lia
    have h2 := (ch j hjl).1
    have h3 : T.getD j [] = t := by rw [List.getD_eq_getElem?_getD, hj]; rfl
    have h4 := (hR.size _ (List.mem_of_getElem? (getD_some (d := []) hjl))).2
    have h5 := (List.getElem?_eq_some_iff.mp hk).1
    have h6 := hb j k t z hj hk
    have h7 : 20 ^ k ≤ 20 ^ 4 := Nat.pow_le_pow_right (by decide) (by rw [h3] at h2; lia)
    have h8 : 1000 * 20 ^ k ≤ 1000 * 20 ^ 4 := Nat.mul_le_mul_left _ h7
    have h9 : (1000 * 20 ^ 4 : Nat) = 160000000 := by decide
    lia
  have hne : ∀ j, j < rows.length → 1 ≤ (rows.getD j []).length := fun j hj => (hR.size _ (List.mem_of_getElem? (getD_some (d := []) hj))).1
  have hprev : ∀ j, j + 1 < rows.length → (prevT [] T (j + 1)).length = (rows.getD j []).length - 1 := fun j hj => by
    show ((T.getD j []).tail).length = _
    rw [List.length_tail, (ch j (by lia)).1]
  refine ⟨by rw [hlen], fun j hj => (ch j hj).1, hsmall, fun j hj => (ch j hj).2.1, fun j hj => ?_, fun j h0 hj => ?_⟩
  · obtain ⟨c1, c2, c3, c4⟩ := ch j hj
    by_cases hl : (rows.getD j []).length > 1
    · have key : ∀ i, i ≤ j → pz (T.getD i []).tail ((j : Int) - i) = sgS rows j i (i + 1) := by
        intro i
        induction i with
        | zero =>
          intro _
          rw [(ch 0 (by lia)).2.2.2]
          simp [prevT, pz, sgS, mulU]
        | succ i ih =>
          intro hi
          rw [(ch (i + 1) (by lia)).2.2.2, sgS, sgS_step rows j i (i + 1) (by lia), ← ih (by lia), hprev i (by lia)]
          have e1 : (j : Int) - ((i + 1 : Nat) : Int) + 1 = (j : Int) - i := by lia
          have e2 : (rows.getD (i + 1) []).length - 1 - ((rows.getD i []).length - 1) = (rows.getD (i + 1) []).length - (rows.getD i []).length := sub11 (hne i (Nat.lt_of_succ_lt (by lia)))
          rw [e1, e2, Nat.sub_self, mulU]
          show _ + _ * pz (T.getD i []).tail _ = _
          generalize Rz (rows.getD (i + 1) []).dropLast _ = p
          generalize pz (T.getD i []).tail _ = q
          generalize ((j : Int) - i) ^ _ = r
          grind
      have k := key j (Nat.le_refl _)
      rw [Int.sub_self, sgS_sumT] at k
      rw [lastG, if_pos hl, ← k]
      have ht : (T.getD j []).tail ≠ [] := by
        intro e; have := List.length_tail (l := T.getD j []); rw [e, List.length_nil] at this; lia
      rw [pz_zero ht]
      generalize T.getD j [] = t at ht ⊢
      match t, ht with
      | x :: y :: t, _ => simp
      | [x], h => exact absurd rfl h
      | [], h => exact absurd rfl h
    · rw [lastG, if_neg hl]
      have h1 : (rows.getD j []).length = 1 := by have := hne j hj; lia
      have h2 : (T.getD j []).length = 1 := by rw [c1, h1]
      generalize rows.getD j [] = r at c2 h1 ⊢
      generalize T.getD j [] = t at c2 h2 ⊢
      match r, t, h1, h2 with
      | [x], [y], _, _ => simpa using c2
  · obtain ⟨i, rfl⟩ : ∃ i, j = i + 1 := ⟨j - 1, by lia⟩
    rw [Nat.add_sub_cancel]
    obtain ⟨c1, c2, c3, c4⟩ := ch (i + 1) hj
    have hp := hprev i hj
    have e2 : (rows.getD (i + 1) []).length - 1 - ((rows.getD i []).length - 1) = (rows.getD (i + 1) []).length - (rows.getD i []).length := sub11 (hne i (Nat.lt_of_succ_lt (by lia)))
    have hN2 : aheadN (T.getD (i + 1) []) (rows.getD (i + 1) []) = pz (prevT [] T (i + 1) ++ List.replicate ((rows.getD (i + 1) []).length - (rows.getD i []).length) 0) 4294967297 := by
      rw [aheadN, d2i_pz, c4, pz_app0, hp, e2]
      show _ + (4294967296 + 1) ^ _ * pz _ (4294967296 + 1) - _ = _
      rw [show (4294967296 : Int) + 1 = 4294967297 from rfl]
      lia
    have hdl : (rows.getD (i + 1) []).dropLast.length = (rows.getD (i + 1) []).length - 1 := List.length_dropLast
    have hf := figG_pz ((rows.getD (i + 1) []).dropLast.length) (prevT [] T (i + 1) ++ List.replicate ((rows.getD (i + 1) []).length - (rows.getD i []).length) 0) (by
        rw [List.length_append, List.length_replicate, hp, hdl]; exact sub12 (hne i (Nat.lt_of_succ_lt hj)) (hp ▸ c3)) (fun x hx => by
        rcases List.mem_append.mp hx with hx | hx
        · have hm : T.getD i [] ∈ T := List.mem_of_getElem? (getD_some (d := []) (by lia))
          have := hsmall _ hm x (List.mem_of_mem_tail hx)
          lia
        · rw [(List.mem_replicate.mp hx).2]; simp)
    rw [aheadG, hN2, hf]
    simp [prevT]
end
noncomputable section
noncomputable def enc : Nat → List (List Int) → List Tok
  | _, [] => []
  | j, l :: ls => (if l = [] then [] else l.map Tok.num ++ [.mark j]) ++ enc (j + 1) ls
noncomputable abbrev zws (T : List (List Int)) : List (List (List Nat)) := T.map fun t => t.map zw
theorem rd_block (rest : List Tok) (j : Nat) : ∀ (l : List Int) (t h : Int) (k : Nat) (out : List Tok) (ss : List (List (List Nat))),
    rdGo (l.map Tok.num ++ .mark j :: rest) t (some h) k out ss = rdGo rest (t + (h :: l).dropLast.sum) none 0 (out ++ (psum t (h :: l).dropLast).map Tok.num ++ (if k + l.length = 0 then [] else [.mark j])) (ss.set j (ss.getD j [] ++ [zw ((h :: l).getLast (by simp))]))
  | [], t, h, k, out, ss => by
    show rdGo (.mark j :: rest) t (some h) k out ss = _
    rw [rdGo]
    by_cases hk : k = 0
    · subst hk; simp [psum, heldW]
    · rw [if_neg hk, if_neg (by simpa using hk)]; simp [psum, heldW]
  | z :: l, t, h, k, out, ss => by
    show rdGo (.num z :: (l.map Tok.num ++ .mark j :: rest)) t (some h) k out ss = _
    rw [rdGo, rd_block rest j l]
    have eg : (h :: z :: l).getLast (by simp) = (z :: l).getLast (by simp) := List.getLast_cons _
    rw [List.dropLast_cons_of_ne_nil (x := h) (l := z :: l) (by simp), List.sum_cons, psum, List.map_cons, eg]
    rw [if_neg (by lia), if_neg (by simp), Int.add_assoc]
    simp
noncomputable def stk (T bl : List (List Int)) : List (List Int) := List.zipWith (fun t l => t ++ l.getLast?.toList) T bl
theorem rd_enc : ∀ (bl : List (List Int)) (T1 T2 : List (List Int)) (c : Int) (out : List Tok), T2.length = bl.length →
    rdGo (enc T1.length bl) c none 0 out (zws (T1 ++ T2)) = (out ++ enc T1.length (rndB c bl), zws (T1 ++ stk T2 bl))
  | [], T1, T2, c, out, h => by
    have : T2 = [] := by simpa using h
    subst this
    simp [enc, rdGo, rndB, stk]
  | l :: ls, T1, [], c, out, h => by simp at h
  | [] :: ls, T1, t :: T2, c, out, h => by
    have ih := rd_enc ls (T1 ++ [t]) T2 c out (by simpa using h)
    simp only [List.length_append, List.length_singleton, List.append_assoc, List.singleton_append] at ih
    simp only [enc, if_true, List.nil_append, rndB, List.dropLast_nil, List.sum_nil, Int.add_zero, psum, stk, List.zipWith_cons_cons, List.getLast?_nil, Option.toList, List.append_nil]
    exact ih
  | (x :: l) :: ls, T1, t :: T2, c, out, h => by
    have e0 : enc T1.length ((x :: l) :: ls) = .num x :: (l.map Tok.num ++ .mark T1.length :: enc (T1.length + 1) ls) := by simp [enc]
    rw [e0, rdGo, rd_block]
    have es : (zws (T1 ++ t :: T2)).set T1.length ((zws (T1 ++ t :: T2)).getD T1.length [] ++ [zw ((x :: l).getLast (by simp))]) = zws ((T1 ++ [t ++ [(x :: l).getLast (by simp)]]) ++ T2) := by
      have e1 : (zws (T1 ++ t :: T2)).getD T1.length [] = t.map zw := by
        rw [List.getD_eq_getElem?_getD, List.getElem?_map, List.getElem?_append_right (Nat.le_refl _), Nat.sub_self]; rfl
      rw [e1]
      simp only [zws, List.map_append, List.map_cons]
      rw [List.set_append_right _ _ (by simp), List.length_map, Nat.sub_self]
      simp
    rw [es]
    have ih := rd_enc ls (T1 ++ [t ++ [(x :: l).getLast (by simp)]]) T2 (c + (x :: l).dropLast.sum) (out ++ (psum c (x :: l).dropLast).map Tok.num ++ (if 0 + l.length = 0 then [] else [.mark T1.length])) (by simpa using h)
    simp only [List.length_append, List.length_singleton] at ih
    rw [ih]
    have hp : (psum c (x :: l).dropLast = []) ↔ l = [] := by
      have := psum_len c (x :: l).dropLast
      rw [List.length_dropLast, List.length_cons, Nat.add_sub_cancel] at this
      constructor
      · intro e; rw [e] at this; exact List.length_eq_zero_iff.mp this.symm
      · intro e; subst e; rfl
    refine Prod.ext ?_ ?_
    · show _ = out ++ enc T1.length (psum c (x :: l).dropLast :: rndB (c + (x :: l).dropLast.sum) ls)
      rw [enc]
      by_cases hl : l = []
      · subst hl; simp [psum]
      · rw [if_neg (by simpa using hl), if_neg (fun e => hl (hp.mp e))]; simp
    · show zws _ = zws _
      congr 1
      simp [stk, List.getLast?_eq_some_getLast]
noncomputable def itB (bl : List (List Int)) : Nat → List (List Int)
  | 0 => bl
  | n + 1 => rndB 0 (itB bl n)
noncomputable def stT (bl : List (List Int)) : Nat → List (List Int)
  | 0 => List.replicate bl.length []
  | n + 1 => stk (stT bl n) (itB bl n)
theorem rnd_len : ∀ (bl : List (List Int)) (c : Int), (rndB c bl).length = bl.length
  | [], _ => rfl
  | l :: ls, c => by rw [rndB, List.length_cons, rnd_len ls, List.length_cons]
theorem itB_len (bl : List (List Int)) : ∀ n, (itB bl n).length = bl.length
  | 0 => rfl
  | n + 1 => by rw [itB, rnd_len, itB_len bl n]
theorem stT_len (bl : List (List Int)) : ∀ n, (stT bl n).length = bl.length
  | 0 => by simp [stT]
  | n + 1 => by rw [stT, stk, List.length_zipWith, stT_len bl n, itB_len]; lia
theorem stT_evs (bl : List (List Int)) : ∀ n m, List.zipWith (· ++ ·) (stT bl n) (evs (itB bl n) (List.replicate m 0)) = evs bl (List.replicate (n + m) 0)
  | 0, m => by
    rw [Nat.zero_add, stT, itB]
    have := evs_len bl (List.replicate m 0)
    refine List.ext_getElem (by simp [this]) fun i h1 h2 => ?_
    simp
  | n + 1, m => by
    have ih := stT_evs bl n (m + 1)
    rw [show n + 1 + m = n + (m + 1) by lia, ← ih, List.replicate_succ, evs_round, stT, itB, stk]
    refine List.ext_getElem (by simp) fun i h1 h2 => ?_
    simp
theorem evs_nil : ∀ (bl : List (List Int)), evs bl [] = List.replicate bl.length []
  | [] => rfl
  | l :: ls => by rw [evs, ev, oc, evs_nil ls]; rfl
theorem stT_all (bl : List (List Int)) (N : Nat) : stT bl N = evs bl (List.replicate N 0) := by
  have h := stT_evs bl N 0
  rw [Nat.add_zero] at h
  rw [← h, List.replicate_zero, evs_nil]
  refine List.ext_getElem (by simp [itB_len, stT_len]) fun i h1 h2 => ?_
  simp
theorem itB_le : ∀ (n : Nat) {bl : List (List Int)} {N : Nat}, (∀ l ∈ bl, l.length ≤ N) → ∀ l ∈ itB bl n, l.length ≤ N - n
  | 0, bl, N, h, l, hl => by simpa using h l hl
  | n + 1, bl, N, h, l, hl => by
    have ih := itB_le n h
    rw [itB] at hl
    have : ∀ (cl : List (List Int)) (c : Int), (∀ l ∈ cl, l.length ≤ N - n) → ∀ l ∈ rndB c cl, l.length ≤ N - (n + 1) := by
      intro cl
      induction cl with
      | nil => intro c _ l hl; simp [rndB] at hl
      | cons m ms ih2 =>
        intro c hc l hl
        rcases List.mem_cons.mp hl with rfl | hl
        · rw [psum_len, List.length_dropLast]; exact Nat.sub_le_sub_right (hc m (.head _)) 1
        · exact ih2 _ (fun y hy => hc y (.tail _ hy)) l hl
    exact this _ 0 ih l hl
theorem enc_nil : ∀ (j : Nat) (bl : List (List Int)), (∀ l ∈ bl, l = []) → enc j bl = []
  | _, [], _ => rfl
  | j, l :: ls, h => by rw [enc, if_pos (h l (.head _)), enc_nil (j + 1) ls fun m hm => h m (.tail _ hm)]; rfl
theorem enc_len : ∀ (j : Nat) (bl : List (List Int)), (enc j bl).length ≤ tot bl + bl.length
  | _, [] => by simp [enc, tot]
  | j, l :: ls => by
    have := enc_len (j + 1) ls
    rw [enc, List.length_append, tot_cons, List.length_cons]
    split
    · simp; lia
    · simp; lia
theorem enc_mem : ∀ (j : Nat) (bl : List (List Int)) (t : Tok), t ∈ enc j bl → (∃ z l, t = .num z ∧ l ∈ bl ∧ z ∈ l) ∨ (∃ i, t = .mark i ∧ i < j + bl.length)
  | _, [], _, h => nomatch h
  | j, l :: ls, t, h => by
    rw [enc] at h
    rcases List.mem_append.mp h with h | h
    · split at h
      · simp at h
      · rcases List.mem_append.mp h with h | h
        · obtain ⟨z, hz, rfl⟩ := List.mem_map.mp h
          exact .inl ⟨z, l, rfl, .head _, hz⟩
        · rw [List.mem_singleton.mp h]; exact .inr ⟨j, rfl, by simp⟩
    · rcases enc_mem (j + 1) ls t h with ⟨z, m, e, h1, h2⟩ | ⟨i, e, h1⟩
      · exact .inl ⟨z, m, e, .tail _ h1, h2⟩
      · exact .inr ⟨i, e, by simp; lia⟩
theorem itB_tot (bl : List (List Int)) : ∀ n, tot (itB bl n) ≤ tot bl
  | 0 => Nat.le_refl _
  | n + 1 => by rw [itB]; exact Nat.le_trans (tot_rnd _ 0) (itB_tot bl n)
theorem itB_bound {bl : List (List Int)} {M : Nat} (h : ∀ l ∈ bl, ∀ x ∈ l, x.natAbs ≤ M) (ht : tot bl ≤ 20) : ∀ n, ∀ l ∈ itB bl n, ∀ x ∈ l, x.natAbs ≤ M * 20 ^ n
  | 0 => by simpa [itB] using h
  | n + 1 => fun l hl x hx => by
    have := bound_rnd (M := M * 20 ^ n) (itB bl n) 0 (itB_bound h ht n) l (by rw [itB] at hl; exact hl) x hx
    have h2 : tot (itB bl n) * (M * 20 ^ n) ≤ 20 * (M * 20 ^ n) := Nat.mul_le_mul_right _ (Nat.le_trans (itB_tot bl n) ht)
    rw [Nat.pow_succ, ← Nat.mul_assoc]
    lia
theorem tot_rows {rows : List (List Int)} (hR : RowsOk rows) : tot rows ≤ 20 := by
  have : ∀ ls : List (List Int), (∀ l ∈ ls, l.length ≤ 5) → tot ls ≤ 5 * ls.length := by
    intro ls h
    induction ls with
    | nil => simp [tot]
    | cons l ls ih =>
      rw [tot_cons, List.length_cons]
      have := ih fun m hm => h m (.tail _ hm)
      have := h l (.head _)
      lia
  have h5 := this rows fun l hl => (hR.size l hl).2
  have := hR.few
  lia
theorem stT_small (bl : List (List Int)) : ∀ n, ∀ t ∈ stT bl n, t.length ≤ n
  | 0, t, h => by rw [stT] at h; rw [(List.mem_replicate.mp h).2]; simp
  | n + 1, t, h => by
    rw [stT, stk] at h
    obtain ⟨i, hi, rfl⟩ := List.mem_iff_getElem.mp h
    rw [List.getElem_zipWith, List.length_append]
    have h1 := stT_small bl n _ (List.getElem_mem (show i < (stT bl n).length by simp at hi; lia))
    have h2 : ∀ l : List Int, l.getLast?.toList.length ≤ 1 := fun l => by cases l.getLast? <;> simp
    have := h2 ((itB bl n)[i]'(by simp at hi; lia))
    lia
end
noncomputable section
theorem Upd.appL {a : Addr} {x y : AO} {X X' H : AH} (h : Upd a x y X X') : Upd a x y (X ++ H) (X' ++ H) := by
  induction h with
  | head => exact .head
  | tail _ ih => exact .tail ih
theorem nls_cons (r : Addr) (v : List V) (rs : List Addr) (vss : List (List V)) : nls (r :: rs) (v :: vss) = nls rs vss ++ [(r, .list v)] := by simp [nls]
theorem nls_upd {st : Addr} {s s' : List V} : ∀ (rs : List Addr) (vss : List (List V)) (j : Nat), rs[j]? = some st → vss[j]? = some s → Upd st (.list s) (.list s') (nls rs vss) (nls rs (vss.set j s'))
  | [], _, _, h, _ => by simp at h
  | _ :: _, [], _, _, h => by simp at h
  | r :: rs, v :: vss, 0, h1, h2 => by
    simp at h1 h2
    subst h1 h2
    rw [List.set_cons_zero, nls_cons, nls_cons]
    exact .app .head
  | r :: rs, v :: vss, j + 1, h1, h2 => by
    rw [List.set_cons_succ, nls_cons, nls_cons]
    exact .appL (nls_upd rs vss j (by simpa using h1) (by simpa using h2))
noncomputable def kvF : Nat → List Addr → List (Str × Value)
  | _, [] => []
  | j, r :: rs => (mkS [97 + j], .ref r) :: kvF (j + 1) rs
theorem kvF_len : ∀ (j : Nat) (rs : List Addr), (kvF j rs).length = rs.length
  | _, [] => rfl
  | j, r :: rs => by rw [kvF, List.length_cons, kvF_len, List.length_cons]
theorem kvF_snoc (r : Addr) : ∀ (j : Nat) (rs : List Addr), kvF j (rs ++ [r]) = kvF j rs ++ [(mkS [97 + (j + rs.length)], .ref r)]
  | j, [] => rfl
  | j, s :: rs => by
    rw [List.cons_append, kvF, kvF_snoc r (j + 1) rs, kvF, List.cons_append, List.length_cons, show j + 1 + rs.length = j + (rs.length + 1) by lia]
theorem kvF_key : ∀ (j : Nat) (rs : List Addr) (p : Str × Value), p ∈ kvF j rs → ∃ i, j ≤ i ∧ i < j + rs.length ∧ p.1 = mkS [97 + i]
  | _, [], _, h => nomatch h
  | j, r :: rs, p, h => by
    rcases List.mem_cons.mp h with rfl | h
    · exact ⟨j, Nat.le_refl _, by simp, rfl⟩
    · obtain ⟨i, h1, h2, h3⟩ := kvF_key (j + 1) rs p h
      exact ⟨i, by lia, by simp; lia, h3⟩
theorem kvF_at : ∀ (j : Nat) (rs : List Addr) (i : Nat) (r : Addr), rs[i]? = some r → valueAt (kvF j rs) (mkS [97 + (j + i)]) = some (.ref r)
  | _, [], _, _, h => by simp at h
  | j, s :: rs, 0, r, h => by
    simp at h; subst h
    simp [kvF, valueAt]
  | j, s :: rs, i + 1, r, h => by
    have ih := kvF_at (j + 1) rs i r (by simpa using h)
    rw [show j + 1 + i = j + (i + 1) by lia] at ih
    unfold valueAt at ih ⊢
    rw [kvF, List.find?_cons_of_neg]
    · exact ih
    · simp only [decide_eq_true_eq]
      intro e
      have := mkS_inj e
      simp at this
theorem kvF_no {k : Str} {j : Nat} {rs : List Addr} (h : ∀ i, j ≤ i → i < j + rs.length → k ≠ mkS [97 + i]) : valueAt (kvF j rs) k = none := by
  unfold valueAt
  rw [Option.map_eq_none_iff, List.find?_eq_none]
  intro p hp
  obtain ⟨i, h1, h2, h3⟩ := kvF_key j rs p hp
  simp only [decide_eq_true_eq]
  intro e
  exact h i h1 h2 (e ▸ h3)
theorem kvF_store (rs : List Addr) (r : Addr) : stored (kvF 0 rs) (mkS [97 + rs.length]) (.ref r) = kvF 0 (rs ++ [r]) := by
  rw [kvF_snoc, Nat.zero_add]
  unfold stored
  rw [if_neg]
  rw [List.any_eq_true]
  rintro ⟨p, hp, e⟩
  obtain ⟨i, h1, h2, h3⟩ := kvF_key 0 rs p hp
  rw [h3] at e
  have := mkS_inj (of_decide_eq_true e)
  simp at this
  lia
end
noncomputable section
structure Bef (a : Ad) (x dx pb rl ml cL cR : Addr) (fp : V) (n : Int) (rrs : List Addr) (rows : List (List Int)) (R : AH) : Prop where
  hx : (x, AO.obj (instObj a.cls dx)) ∈ R
  hd : (dx, AO.attrs (netA n fp pb)) ∈ R
  hr : LL rl rrs (rows.map intVs) R
  hm : (ml, AO.list (strVs (marksW rows.length))) ∈ R
  c2 : (cL, AO.cell (some (.ref x))) ∈ R
  c3 : (cR, AO.cell (some (.ref rl))) ∈ R
  T : Tabs a R
  rd : ∃ fpA fd rda cl ll, fp = .ref fpA ∧ Rd a x dx fpA fd rda cl ll pb R ∧ (ll, AO.list []) ∈ R ∧ pb ≠ ll
theorem zw_nokey {sts : List Addr} (z : Int) : valueAt (kvF 0 sts) (mkS (zw z)) = none := kvF_no fun i _ _ e => by
  have h := mkS_inj e
  have h1 := congrArg List.head? h
  have : (if z < 0 then 34 else 10 : Nat) = 97 + i := by simpa [zw, wz] using h1
  split at this <;> lia
section
variable {C : Cfg} {a : Ad} {A : Around} {R : AH} {env : Env} {L x dx pb sd rl ml cS cL cR : Addr} {fp : V} {o : Obj} {sts rrs : List Addr} {rows : List (List Int)} {K : AO → AO → AH} {tx : List Nat}
theorem rk_of {P : Addr × AO} {n : Int} (hB : ∀ u v, Bef a x dx pb rl ml cL cR fp n rrs rows (K u v)) (hK : Hole2 pb (.list []) cS (.cell none) R K) (D : DObj C o (kvF 0 sts)) (sys : (sd == sysModules) = false) :
    RK C a x dx pb sd fp n o (kvF 0 sts) sts (fun ws ss => P :: (nls sts (ss.map strVs) ++ (sd, .obj o) :: K (.list (strVs ws)) (.cell (some (.ref sd))))) where
  hx := fun ws ss => .tail _ (List.mem_append_right _ (.tail _ (hB _ _).hx))
  hd := fun ws ss => .tail _ (List.mem_append_right _ (.tail _ (hB _ _).hd))
  hp := fun ws ws' ss => .tail (.app (.tail (hK.upd1 _ _ _)))
  hs := fun ws ss j st s s' h1 h2 => by
    rw [List.map_set]
    exact .tail (.appL (nls_upd sts _ j h1 (by rw [List.getElem?_map, h2]; rfl)))
  ho := fun ws ss => .tail _ (List.mem_append_right _ (.head _))
  hT := fun ws ss => .tail _ (List.mem_append_right _ (.tail _ (hB _ _).T.d2i))
  D := D
  sys := sys
  key := fun j st h => by have := kvF_at 0 sts j st h; rwa [Nat.zero_add] at this
  nokey := zw_nokey
inductive RwI (vs us : List (Option V)) (L sd : Addr) (o : Obj) (sts : List Addr) (rows : List (List Int)) (K : AO → AO → AH) (N : Nat) (i : Nat) (H₁ : AH) : Prop
  | mk (u : Option V) (h : i ≤ N) (e : H₁ = (L, .ns lawL (vs ++ u :: us)) :: (nls sts ((zws (stT rows i)).map strVs) ++ (sd, .obj o) :: K (.list (strVs ((enc 0 (itB rows i)).map tokW))) (.cell (some (.ref sd))))) : RwI vs us L sd o sts rows K N i H₁
theorem part16 {v0 v1 v2 v3 v4 v5 v7 v8 v9 v11 v12 v13 v14 v15 v16 v17 v18 : Option V} (W : W3 C a) (hr : Room A 40) (FE : FEnv env L lawL [("struck", cS), ("line", cL), ("rows", cR)] lawG)
    (hR : RowsOk rows) (hne : rows ≠ []) (hB : ∀ u v, Bef a x dx pb rl ml cL cR fp (1 + nl tx) rrs rows (K u v)) (hK : Hole2 pb (.list []) cS (.cell none) R K) (D : DObj C o (kvF 0 sts)) (sys : (sd == sysModules) = false) (hsl : sts.length = rows.length) :
    WPS C A env (LB.drop 16) (QL a) ((L, .ns lawL [v0, v1, v2, v3, v4, v5, some (.ref ml), v7, v8, v9, some (.str (mkS tx)), v11, v12, v13, v14, v15, v16, v17, v18]) :: (nls sts ((zws (stT rows 0)).map strVs) ++ (sd, .obj o) :: K (.list (strVs ((enc 0 rows).map tokW))) (.cell (some (.ref sd))))) := by
  have G := W.G
  have hA := hr.hd
  have hJ4 := hR.few
  have hJ0 : 0 < rows.length := List.length_pos_iff.mpr hne
  obtain ⟨rN, hrN⟩ : ∃ rN, rows.getLast? = some rN := ⟨_, List.getLast?_eq_some_getLast hne⟩
  have hrNm := List.mem_of_getLast? hrN
  have hrNs := hR.size rN hrNm
  have hN : ∀ l ∈ rows, l.length ≤ rN.length := fun l hl => by
    obtain ⟨i, hi⟩ := List.getElem?_of_mem hl
    have hil := (List.getElem?_eq_some_iff.mp hi).1
    have := hR.up i (rows.length - 1) (by lia) (by lia)
    rw [List.getD_eq_getElem?_getD, hi, List.getD_eq_getElem?_getD, ← List.getLast?_eq_getElem?, hrN] at this
    exact this
  have htot := tot_rows hR
  have hb0 := hB (.list (strVs ((enc 0 rows).map tokW))) (.cell (some (.ref sd)))
  have hll := hb0.hr.len
  rw [List.length_map] at hll
  have q1 := hb0.c3
  have q2 := hb0.hr.top
  have q3 : ∀ u v, (rrs.getD (rows.length - 1) 0, AO.list (intVs rN)) ∈ K u v := fun u v => (hB u v).hr.sub (rows.length - 1) _ _ (getD_some (by lia)) (by rw [List.getElem?_map, ← List.getLast?_eq_getElem?, hrN]; rfl)
  have bigM : ∀ {p : Addr × AO} {X : AH} {q : Addr × AO} {H : AH}, p ∈ H → p ∈ X ++ q :: H := fun h => List.mem_append_right _ (.tail _ h)
  have q1' := bigM (X := nls sts ((zws (stT rows 0)).map strVs)) (q := (sd, .obj o)) q1
  refine wps_cons (wp1_For (wpi_value ?_))
  repeat walk_at "s"
  refine gi_list_neg (v := .ref (rrs.getD (rows.length - 1) 0)) (.tail _ (bigM q2)) (by decide) (by simp; lia) ?_ (by simp; lia) ?_
  · have e1 : (-1 + (((rrs.map V.ref).length : Nat) : Int)).toNat = rows.length - 1 := by rw [List.length_map, hll]; exact last_ix (List.length_pos_iff.mpr hne)
    rw [e1]; exact ref_get (by lia)
  refine pi_list hA (.tail _ (bigM (q3 _ _))) ?_
  refine ⟨RwI [v0, v1, v2, v3, v4, v5, some (.ref ml), v7, v8, v9, some (.str (mkS tx)), v11, v12, v13, v14, v15] [v17, v18] L sd o sts rows K rN.length, rN.length, ?_, ?_⟩
  · exact ⟨v16, Nat.zero_le _, rfl⟩
  · rintro i H₁ ⟨u, hi, rfl⟩
    by_cases hlt : i < rN.length
    · left
      refine ⟨.int rN[i], hlt, listItem_some (.tail _ (bigM (q3 _ _))) (by rw [List.getElem?_map, List.getElem?_eq_getElem hlt]; rfl), ?_⟩
      simp only [List.cons_append, List.nil_append]
      have w1 := bigM (X := nls sts ((zws (stT rows i)).map strVs)) (q := (sd, .obj o)) (hB (.list (strVs ((enc 0 (itB rows i)).map tokW))) (.cell (some (.ref sd)))).c2
      have w2 : (cS, AO.cell (some (.ref sd))) ∈ nls sts ((zws (stT rows i)).map strVs) ++ (sd, .obj o) :: K (.list (strVs ((enc 0 (itB rows i)).map tokW))) (.cell (some (.ref sd))) := bigM (hK.mem2 _ _)
      repeat walk_at "s"
      have hbd := itB_bound hR.small htot i
      have h20 : 1000 * 20 ^ i ≤ 1000 * 20 ^ 5 := Nat.mul_le_mul_left _ (Nat.pow_le_pow_right (by decide) (by lia))
      refine sp_round (KK := fun ws ss => (L, _) :: (nls sts (ss.map strVs) ++ (sd, .obj o) :: K (.list (strVs ws)) (.cell (some (.ref sd))))) (ts := enc 0 (itB rows i)) (ss := zws (stT rows i)) (out := enc 0 (itB rows (i + 1))) (ss' := zws (stT rows (i + 1))) (m := 10) (B := 1000 * 20 ^ 5) W (hr.mono (by decide)) (rk_of hB hK D sys) ?_ (by decide) (fun t ht => ?_) ?_ (fun s hs => ?_) (by decide) ?_ ?_
      · have := enc_len 0 (itB rows i)
        have := itB_tot rows i
        have := itB_len rows i
        lia
      · rcases enc_mem 0 _ t ht with ⟨z, l, rfl, h1, h2⟩ | ⟨k, rfl, h1⟩
        · have := hbd l h1 z h2
          show (z.natAbs : Int) ≤ _
          lia
        · show k < sts.length
          have := itB_len rows i
          lia
      · rw [List.length_map, stT_len]; lia
      · obtain ⟨t, ht, rfl⟩ := List.mem_map.mp hs
        rw [List.length_map]
        have := stT_small rows i t ht
        lia
      · have := rd_enc (itB rows i) [] (stT rows i) 0 [] (by rw [stT_len, itB_len])
        simpa [itB, stT] using this
      repeat walk_at "s"
      exact ⟨some (.int rN[i]), hlt, rfl⟩
    · right
      have : i = rN.length := by lia
      subst this
      refine ⟨listItem_none (.tail _ (bigM (q3 _ _))) (by simp), ?_⟩
      simp only [List.cons_append, List.nil_append]
      have hall : enc 0 (itB rows rN.length) = [] := enc_nil _ _ fun l hl => by
        have := itB_le rN.length hN l hl
        rw [Nat.sub_self] at this
        simpa using this
      rw [hall, stT_all]
      have hO := told_ok hR hN hrNs.1
      generalize evs rows (List.replicate rN.length 0) = T at hO ⊢
      have hb := hB (.list (strVs (([] : List Tok).map tokW))) (.cell (some (.ref sd)))
      refine wps_nil ?_
      refine part17 (o := o) (kvs := kvF 0 sts) (sts := sts) (rrs := rrs) (tolds := T) (sd := sd) (rl := rl) (x := x) (dx := dx) (pb := pb) (fp := fp) W hr FE hR hO ⟨bigM hb.hx, bigM hb.hd, fun j st t h1 h2 => ?_, by rw [hsl, hO.len], List.mem_append_right _ (.head _), D, sys, fun j st h => by have := kvF_at 0 sts j st h; rwa [Nat.zero_add] at this, hb.hr.to fun p h => bigM h, bigM hb.hm, bigM (hK.mem2 _ _), bigM hb.c2, bigM hb.c3, hb.T.to fun p h => bigM h, ?_⟩ (bigM (hK.mem1 _ _))
      · exact nl_mem h1 (by rw [List.getElem?_map, List.getElem?_map, h2]; rfl)
      · obtain ⟨fpA, fd, rda, cl, ll, g0, g1, g2, g3⟩ := hb.rd
        exact ⟨fpA, fd, rda, cl, ll, g0, ⟨bigM g1.x, bigM g1.fp, bigM g1.fd, bigM g1.rd, bigM g1.cl⟩, bigM g2, g3⟩
inductive DcI (C : Cfg) (c sd : Addr) (J : Nat) (Rest : AH) (i : Nat) (H₁ : AH) : Prop
  | mk (rs : List Addr) (oo : Obj) (u : Option V) (h0 : i ≤ J) (h1 : rs.length = i) (h2 : DObj C oo (kvF 0 rs)) (e : H₁ = nls rs (List.replicate i []) ++ (c, .ns ["mark"] [u]) :: (sd, .obj oo) :: Rest) : DcI C c sd J Rest i H₁
theorem part15 {v0 v1 v2 v3 v4 v5 v7 v8 v9 v11 v12 v13 v14 v15 v16 v17 v18 : Option V} (W : W3 C a) (hr : Room A 40) (FE : FEnv env L lawL [("struck", cS), ("line", cL), ("rows", cR)] lawG)
    (hR : RowsOk rows) (hne : rows ≠ []) (hB : ∀ u v, Bef a x dx pb rl ml cL cR fp (1 + nl tx) rrs rows (K u v)) (hK : Hole2 pb (.list []) cS (.cell none) R K) (hsys : HasSys C) :
    WPS C A env (LB.drop 15) (QL a) ((L, .ns lawL [v0, v1, v2, v3, v4, v5, some (.ref ml), v7, v8, v9, some (.str (mkS tx)), v11, v12, v13, v14, v15, v16, v17, v18]) :: K (.list (strVs ((enc 0 rows).map tokW))) (.cell none)) := by
  have G := W.G
  have hA := hr.hd
  have hJ4 := hR.few
  have hm := (hB (.list (strVs ((enc 0 rows).map tokW))) (.cell none)).hm
  have FE0 := FE
  refine wps_cons (wp1_Assign_Name (wp_DC (ln' := ["mark"]) (gn' := []) (fs := []) (cs := []) FE (by walk_at "cp") (by decide +kernel) (by simp) ?_ rfl (by decide +kernel) (by intro _; with_unfolding_all rfl)) (hs := swaps_cellD FE (.head _)))
  refine wpi_value ?_
  repeat walk_at "s"
  refine pi_list hA (.tail _ hm) ?_
  intro sd c cenv FE
  replace FE : FEnv cenv c ["mark"] [] [] := FE
  refine ⟨DcI C c sd rows.length ((L, .ns lawL [v0, v1, v2, v3, v4, v5, some (.ref ml), v7, v8, v9, some (.str (mkS tx)), v11, v12, v13, v14, v15, v16, v17, v18]) :: K (.list (strVs ((enc 0 rows).map tokW))) (.cell none)), rows.length, ?_, ?_⟩
  · exact ⟨[], emptyDict, none, Nat.zero_le _, rfl, emptyDict_is, rfl⟩
  · rintro i H₁ _ ⟨rs, oo, u, hi, hrs, hD, rfl⟩
    have hm2 : (ml, AO.list (strVs (marksW rows.length))) ∈ nls rs (List.replicate i []) ++ (c, .ns ["mark"] [u]) :: (sd, .obj oo) :: (L, .ns lawL [v0, v1, v2, v3, v4, v5, some (.ref ml), v7, v8, v9, some (.str (mkS tx)), v11, v12, v13, v14, v15, v16, v17, v18]) :: K (.list (strVs ((enc 0 rows).map tokW))) (.cell none) := List.mem_append_right _ (.tail _ (.tail _ (.tail _ hm)))
    by_cases hlt : i < rows.length
    · left
      refine ⟨.str (mkS [97 + i]), hlt, listItem_some hm2 (by simp [hlt]), asg_Name (store_local FE (.app .head) .head ?_)⟩
      refine wp_local FE (List.mem_append_right _ (.head _)) .head ?_
      repeat walk_at "s"
      intro r
      refine ⟨mkS [97 + i], r, oo, kvF 0 rs, rfl, rfl, hD, by rw [kvF_len]; lia, .tail _ (List.mem_append_right _ (.tail _ (.head _))), fun o' hD' => ⟨_, .tail (.app (.tail .head)), rs ++ [r], o', some (.str (mkS [97 + i])), hlt, by simp [hrs], ?_, ?_⟩⟩
      · rw [← hrs, kvF_store] at hD'
        exact hD'
      · rw [List.replicate_succ', nl_snoc _ _ (by simp [hrs])]; rfl
    · right
      have : i = rows.length := by lia
      subst this
      refine ⟨listItem_none hm2 (by simp), _, _, .app, ?_⟩
      have FE := FE0
      refine store_cell FE (.head _) (.app (.tail (.tail (hK.upd2 _ _ _)))) ?_
      refine wps_next ?_
      refine WP.fresh fun hfr => ?_
      have sys : (sd == sysModules) = false := by
        have h1 := hfr (sd, .obj oo) (List.mem_append_right _ (.head _))
        obtain ⟨o, ho⟩ := hsys
        rw [beq_eq_false_iff_ne]
        intro e
        rw [e] at h1
        simp only [] at h1
        rw [h1] at ho; cases ho
      refine WP.sub (H' := (L, _) :: (nls rs (List.replicate rows.length []) ++ (sd, .obj oo) :: K (.list (strVs ((enc 0 rows).map tokW))) (.cell (some (.ref sd))))) (.pick .app1 (.refl _)) ?_
      have e0 : (List.replicate rows.length ([] : List V)) = (zws (stT rows 0)).map strVs := by simp [stT]
      rw [e0]
      exact part16 W hr FE hR hne hB hK hD sys hrs
inductive PuI (due : List (List Nat)) (vs us : List (Option V)) (sl L : Addr) (K : AO → AO → AH) (i : Nat) (H₁ : AH) : Prop
  | mk (u : Option V) (h : i ≤ due.length) (e : H₁ = (sl, .list (strVs due)) :: (L, .ns lawL (vs ++ u :: us)) :: K (.list (strVs (due.take i))) (.cell none)) : PuI due vs us sl L K i H₁
theorem part14 {v0 v1 v2 v3 v4 v5 v7 v8 v9 v11 v12 v14 v15 v16 v17 v18 : Option V} {hl : Addr} (W : W3 C a) (hr : Room A 40) (FE : FEnv env L lawL [("struck", cS), ("line", cL), ("rows", cR)] lawG)
    (hR : RowsOk rows) (hne : rows ≠ []) (hB : ∀ u v, Bef a x dx pb rl ml cL cR fp (1 + nl tx) rrs rows (K u v)) (hK : Hole2 pb (.list []) cS (.cell none) R K) (hsys : HasSys C)
    (hh : ∀ u v, (hl, AO.list (strVs ((enc 0 rows).map tokW ++ [[], []]))) ∈ K u v) :
    WPS C A env (LB.drop 14) (QL a) ((L, .ns lawL [v0, v1, v2, v3, v4, v5, some (.ref ml), v7, v8, v9, some (.str (mkS tx)), v11, v12, some (.ref hl), v14, v15, v16, v17, v18]) :: K (.list []) (.cell none)) := by
  have G := W.G
  have hA := hr.hd
  have hlen : ((enc 0 rows).map tokW).length ≤ 30 := by
    have := enc_len 0 rows
    have := tot_rows hR
    have := hR.few
    simp; lia
  have hB0 := hB (.list []) (.cell none)
  refine wps_cons (wp1_For (wpi_value ?_))
  repeat walk_at "s"
  refine gs_list (.tail _ (hh _ _)) (by decide) (by simp; simp at hlen; lia) ?_
  intro sl
  rw [show pySlice (strVs ((enc 0 rows).map tokW ++ [[], []])) none (some (-2)) none = strVs ((enc 0 rows).map tokW) from by rw [strVs, List.map_append]; exact pySlice_init2 _ _ _]
  generalize hdue : (enc 0 rows).map tokW = due at hlen hh ⊢
  repeat walk_at "s"
  refine pi_list hA (by walk_at "mem") ?_
  refine ⟨PuI due [v0, v1, v2, v3, v4, v5, some (.ref ml), v7, v8, v9, some (.str (mkS tx)), v11] [some (.ref hl), v14, v15, v16, v17, v18] sl L K, due.length, ?_, ?_⟩
  · exact ⟨v12, Nat.zero_le _, rfl⟩
  · rintro i H₁ ⟨u, hi, rfl⟩
    simp only [List.cons_append, List.nil_append]
    by_cases hlt : i < due.length
    · left
      have hb := hB (.list (strVs (due.take i))) (.cell none)
      refine ⟨.str (mkS due[i]), hlt, listItem_some (by walk_at "mem") (by rw [List.getElem?_map, List.getElem?_eq_getElem hlt]; rfl), ?_⟩
      have m1 := hb.c2
      repeat walk_at "s"
      refine gm_push W (.tail _ (.tail _ hb.hx)) (.tail _ (.tail _ hb.hd)) ?_
      repeat walk_at "s"
      refine sp_push W (hr.mono (by decide)) (.tail _ (.tail _ hb.hx)) (.tail _ (.tail _ hb.hd)) (.tail (.tail (hK.upd1 _ _ _))) (by simp; lia) ?_
      repeat walk_at "s"
      refine ⟨some (.str (mkS due[i])), hlt, ?_⟩
      have e : strVs (due.take (i + 1)) = strVs (due.take i) ++ [.str (mkS due[i])] := by rw [← List.take_append_getElem hlt, strVs, List.map_append]; rfl
      rw [e]; rfl
    · right
      have : i = due.length := by lia
      subst this
      refine ⟨listItem_none (by walk_at "mem") (by simp), ?_⟩
      rw [List.take_length, ← hdue]
      refine wps_nil ?_
      refine WP.sub (.drop (.refl _)) ?_
      exact part15 W hr FE hR hne hB hK hsys
end
end
noncomputable section
theorem W3.hide {C : Cfg} {a : Ad} (W : W3 C a) (l : List Addr) : W3 (C.hide l) a :=
  ⟨W.G.hide l (gl3_notup a), W.cls, W.ap, W.div2, W.i2d, W.d2i, W.dmp, W.idm, W.fInit, W.fRead, W.fGet, W.fPush, W.reader, W.word, W.own, W.number, W.blocks, W.text, W.round, W.last, W.ahead⟩
theorem enc_snoc (l : List Int) (h : l ≠ []) : ∀ (j : Nat) (bl : List (List Int)), enc j (bl ++ [l]) = enc j bl ++ (l.map Tok.num ++ [.mark (j + bl.length)])
  | j, [] => by simp [enc, h]
  | j, m :: bl => by
    rw [List.cons_append, enc, enc_snoc l h (j + 1) bl, enc, List.length_cons, show j + 1 + bl.length = j + (bl.length + 1) by lia, List.append_assoc]
section
variable {C : Cfg} {a : Ad} {A : Around} {R : AH} {env : Env} {L x dx pb rl ml cS cL cR : Addr} {fp : V} {rrs : List Addr} {rows : List (List Int)} {K : AO → AO → AH} {tx : List Nat}
theorem Bef.stay {n : Int} (h : Bef a x dx pb rl ml cL cR fp n rrs rows R) (hne : ∀ r ∈ rows, r ≠ []) (h0 : rows ≠ []) (hK : Hole2 pb (.list []) cS (.cell none) R K) (u v : AO) : Bef a x dx pb rl ml cL cR fp n rrs rows (K u v) := by
  have st : ∀ {p}, p ∈ R → p ≠ (pb, .list []) → p ≠ (cS, .cell none) → p ∈ K u v := fun hp h1 h2 => hK.stay u v hp h1 h2
  have hl := h.hr.len
  rw [List.length_map] at hl
  have hl0 : 0 < rows.length := List.length_pos_iff.mpr h0
  have lne : ∀ {q : Addr} {vs : List V}, vs ≠ [] → (q, AO.list vs) ≠ (pb, .list []) := fun hv e => hv (AO.list.inj (Prod.mk.inj e).2)
  refine ⟨st h.hx (fun e => nomatch e) (fun e => nomatch e), st h.hd (fun e => nomatch e) (fun e => nomatch e), ⟨st h.hr.top (lne ?_) (fun e => nomatch e), h.hr.len, fun j r vs g1 g2 => st (h.hr.sub j r vs g1 g2) (lne ?_) (fun e => nomatch e)⟩, st h.hm (lne ?_) (fun e => nomatch e), st h.c2 (fun e => nomatch e) (fun e => nomatch e), st h.c3 (fun e => nomatch e) (fun e => nomatch e), ⟨st h.T.i2d (fun e => nomatch e) (fun e => nomatch e), st h.T.d2i (fun e => nomatch e) (fun e => nomatch e), st h.T.rd (fun e => nomatch e) (fun e => nomatch e)⟩, ?_⟩
  · intro e; have := congrArg List.length e; simp at this; subst this; simp at hl; lia
  · rw [List.getElem?_map, Option.map_eq_some_iff] at g2
    obtain ⟨r', hr', rfl⟩ := g2
    intro e
    exact hne r' (List.mem_of_getElem? hr') (by simpa using e)
  · intro e; have := congrArg List.length e; simp at this; lia
  · obtain ⟨fpA, fd, rda, cl, ll, g0, g1, g2, g3⟩ := h.rd
    exact ⟨fpA, fd, rda, cl, ll, g0, ⟨st g1.x (fun e => nomatch e) (fun e => nomatch e), st g1.fp (fun e => nomatch e) (fun e => nomatch e), st g1.fd (fun e => nomatch e) (fun e => nomatch e), st g1.rd (fun e => nomatch e) (fun e => nomatch e), st g1.cl (fun e => nomatch e) (fun e => nomatch e)⟩, st g2 (fun e => g3 (Prod.mk.inj e).1.symm) (fun e => nomatch e), g3⟩
theorem Bef.to {n : Int} {R R' : AH} (h : Bef a x dx pb rl ml cL cR fp n rrs rows R) (k : ∀ p ∈ R, p ∈ R') : Bef a x dx pb rl ml cL cR fp n rrs rows R' :=
  ⟨k _ h.hx, k _ h.hd, h.hr.to k, k _ h.hm, k _ h.c2, k _ h.c3, h.T.to k, let ⟨b, c, d, e, f, g1, g2, g3, g4⟩ := h.rd; ⟨b, c, d, e, f, g1, ⟨k _ g2.x, k _ g2.fp, k _ g2.fd, k _ g2.rd, k _ g2.cl⟩, k _ g3, g4⟩⟩
theorem tokW_lt {rows : List (List Int)} (h4 : rows.length ≤ 4) : ∀ w ∈ (enc 0 rows).map tokW, ∀ c ∈ w, c < 0x110000 := by
  intro w hw c hc
  obtain ⟨t, ht, rfl⟩ := List.mem_map.mp hw
  rcases enc_mem 0 rows t ht with ⟨z, l, rfl, _, _⟩ | ⟨i, rfl, hi⟩
  · exact zw_lt hc
  · simp [tokW] at hc; lia
theorem sh13 {W : List (List Nat)} {n : Int} (h : ∀ w ∈ W ++ [[], []], ∀ c ∈ w, c < 0x110000) : SeqAt.shaped (.list [dSs (W ++ [[], []]), .list [], .int n]) = true :=
  (dok_list (n := 2) fun d hd => by
    simp only [List.mem_cons, List.not_mem_nil, or_false] at hd
    rcases hd with rfl | rfl | rfl
    · exact (dok_strs (n := 0) h).mono (by decide)
    · exact dok_list (n := 1) (by simp)
    · exact dok_int).shaped (by decide)
theorem part13 {v0 v1 v2 v3 v4 v5 v7 v8 v9 v12 v15 v16 v17 v18 : Option V} {hl dl ll : Addr} (W : W3 C a) (hr : Room A 40) (FE : FEnv env L lawL [("struck", cS), ("line", cL), ("rows", cR)] lawG)
    (hR : RowsOk rows) (hne : rows ≠ []) (hB : Bef a x dx pb rl ml cL cR fp (1 + nl tx) rrs rows R) (hpb : (pb, AO.list []) ∈ R) (hcS : (cS, AO.cell none) ∈ R) (hsys : HasSys C)
    (hh : (hl, AO.list (strVs ((enc 0 rows).map tokW ++ [[], []]))) ∈ R) (hdl : (dl, AO.list (strVs ((enc 0 rows).map tokW))) ∈ R) (hll : (ll, AO.list []) ∈ R) :
    WPS C A env (LB.drop 13) (QL a) ((L, .ns lawL [v0, v1, v2, v3, v4, v5, some (.ref ml), v7, v8, v9, some (.str (mkS tx)), some (.ref ll), v12, some (.ref hl), some (.ref dl), v15, v16, v17, v18]) :: R) := by
  have G := W.G
  have hA := hr.hd
  have hlen : ((enc 0 rows).map tokW).length ≤ 30 := by
    have := enc_len 0 rows
    have := tot_rows hR
    have := hR.few
    simp; lia
  have hlt : ∀ w ∈ (enc 0 rows).map tokW ++ [[], []], ∀ c ∈ w, c < 0x110000 := by
    intro w hw c hc
    rcases List.mem_append.mp hw with hw | hw
    · exact tokW_lt hR.few w hw c hc
    · simp at hw; subst hw; simp at hc
  have m1 := hB.c2
  refine wps_cons ?_
  repeat walk_at "s"
  refine ga_line W (.tail _ hB.hx) (.tail _ hB.hd) ?_
  repeat walk_at "s"
  intro k1
  repeat walk_at "s"
  intro k2
  repeat walk_at "s"
  refine op_add_list (vs := strVs ((enc 0 rows).map tokW)) (by walk_at "mem") (by walk_at "mem") (by simp at hlen ⊢; lia) ?_
  intro k3
  repeat walk_at "s"
  intro k4
  repeat walk_at "s"
  refine wpm_scount ?_
  repeat walk_at "s"
  refine c_scount ?_
  have e10 : ("\n" : Str) = ⟨#[10]⟩ := by decide +kernel
  rw [e10, count_sign]
  repeat walk_at "s"
  intro k5
  have eln : (1 : Int) + ((tx.count 10 : Nat) : Int) = 1 + nl tx := rfl
  rw [eln]
  have e5 : strVs ((enc 0 rows).map tokW) ++ [V.str "", V.str ""] = strVs ((enc 0 rows).map tokW ++ [[], []]) := by
    rw [strVs, strVs, List.map_append]; rfl
  rw [e5]
  refine op_ne_data (d := .list [dSs ((enc 0 rows).map tokW ++ [[], []]), .list [], .int (1 + nl tx)]) (e := .list [dSs ((enc 0 rows).map tokW ++ [[], []]), .list [], .int (1 + nl tx)])
    (dr_list (.tail _ (.tail _ (.tail _ (.tail _ (.head _))))) (ds_cons (dr_strs (.tail _ (.tail _ (.tail _ (.tail _ (.tail _ (.tail _ hh))))))) (ds_cons (dr_list (.tail _ (.tail _ (.tail _ (.tail _ (.tail _ (.tail _ hll)))))) ds_nil) (ds_cons dr_int ds_nil))))
    (dr_list (.head _) (ds_cons (dr_strs (by walk_at "mem")) (ds_cons (dr_list (.tail _ (.head _)) ds_nil) (ds_cons dr_int ds_nil)))) (sh13 hlt) (sh13 hlt) hr.line ?_
  rw [eqv_cons, eqv_cons, eqv_cons, eqv_strs, eqv_int, eqv_nil]
  simp only [decide_true, Bool.and_self, Bool.not_true]
  repeat walk_at "s"
  refine ⟨fun h => (nomatch h), fun _ => ?_⟩
  refine WP.sub (H' := (L, _) :: R) (.drop (.drop (.drop (.drop (.drop (.refl _)))))) ?_
  refine wps_nil ?_
  obtain ⟨K, hK⟩ := hole2_of_mem (a := pb) (b := cS) (x := .list []) (y := .cell none) (fun e => nomatch e) hpb hcS
  rw [hK.eq]
  have hne2 : ∀ r ∈ rows, r ≠ [] := fun r hr e => by have := (hR.size r hr).1; rw [e] at this; simp at this
  have hdne : (enc 0 rows).map tokW ++ [[], []] ≠ [] := by simp
  exact part14 W hr FE hR hne (hB.stay hne2 hne hK) hK hsys fun u v => hK.stay u v hh (fun e => hdne (by have := AO.list.inj (Prod.mk.inj e).2; simpa using this)) (fun e => nomatch e)
inductive DuI (rows : List (List Int)) (vs us : List (Option V)) (dl L : Addr) (R : AH) (i : Nat) (H₁ : AH) : Prop
  | mk (u w : Option V) (h : i ≤ rows.length) (e : H₁ = (dl, .list (strVs ((enc 0 (rows.take i)).map tokW))) :: (L, .ns lawL (vs ++ w :: us.take 5 ++ u :: us.drop 5)) :: R) : DuI rows vs us dl L R i H₁
theorem part11 {v0 v1 v2 v3 v4 v5 v7 v8 v9 v12 v14 v15 v16 v17 v18 : Option V} {hl ll : Addr} (W : W3 C a) (hr : Room A 40) (FE : FEnv env L lawL [("struck", cS), ("line", cL), ("rows", cR)] lawG)
    (hR : RowsOk rows) (hne : rows ≠ []) (hB : Bef a x dx pb rl ml cL cR fp (1 + nl tx) rrs rows R) (hpb : (pb, AO.list []) ∈ R) (hcS : (cS, AO.cell none) ∈ R) (hsys : HasSys C)
    (hh : (hl, AO.list (strVs ((enc 0 rows).map tokW ++ [[], []]))) ∈ R) (hll : (ll, AO.list []) ∈ R) :
    WPS C A env (LB.drop 11) (QL a) ((L, .ns lawL [v0, v1, v2, v3, v4, v5, some (.ref ml), v7, v8, v9, some (.str (mkS tx)), some (.ref ll), v12, some (.ref hl), v14, v15, v16, v17, v18]) :: R) := by
  have G := W.G
  have hA := hr.hd
  have hJ4 := hR.few
  have hrl := hB.hr.len
  rw [List.length_map] at hrl
  refine wps_cons ?_
  repeat walk_at "s"
  intro dl
  repeat walk_at "s"
  have q1 := hB.c3
  refine wp1_For (wpi_Call ?_)
  repeat walk_at "s"
  refine ci_zip hA (.tail _ (.tail _ hB.hr.top)) (.tail _ (.tail _ hB.hm)) ?_
  intro bz
  have W' := W.hide [bz]
  refine ⟨DuI rows [v0, v1, v2, v3, v4, v5, some (.ref ml), v7, v8] [some (.str (mkS tx)), some (.ref ll), v12, some (.ref hl), some (.ref dl), v16, v17, v18] dl L R, rows.length, ?_, ?_⟩
  · exact ⟨v15, v9, Nat.zero_le _, rfl⟩
  · rintro i H₁ ⟨u, w, hi, rfl⟩
    simp only [List.cons_append, List.nil_append, List.take, List.drop]
    by_cases hlt : i < rows.length
    · left
      have g1 : rows[i]? = some (rows.getD i []) := getD_some hlt
      have n1 := hB.hr.sub i _ _ (getD_some (d := 0) (by lia)) (by rw [List.getElem?_map, g1]; rfl)
      have e1 := hR.size _ (List.mem_of_getElem? g1)
      have e2 := hR.small _ (List.mem_of_getElem? g1)
      have etk : rows.take (i + 1) = rows.take i ++ [rows.getD i []] := by
        rw [List.take_succ, g1]; rfl
      have hel := enc_len 0 (rows.take i)
      have het : tot (rows.take i) ≤ 20 := by
        have h1 := tot_rows hR
        have : tot (rows.take i) + tot (rows.drop i) = tot rows := by
          rw [tot, tot, tot, ← List.sum_append, ← List.map_append, List.take_append_drop]
        lia
      have eenc := enc_snoc (rows.getD i []) (by intro e; rw [e] at e1; simp at e1) 0 (rows.take i)
      rw [List.length_take, Nat.min_eq_left (by lia), Nat.zero_add] at eenc
      refine ⟨.tup [.ref (rrs.getD i 0), .str (mkS [97 + i])], hlt, ⟨rrs.map V.ref, strVs (marksW rows.length), .tail _ (.tail _ hB.hr.top), .tail _ (.tail _ hB.hm), .inl ⟨_, _, ref_get (by lia), by simp [hlt], rfl⟩⟩, ?_⟩
      generalize rows.getD i [] = rw at n1 e1 e2 etk eenc ⊢
      generalize rrs.getD i 0 = r1 at n1 ⊢
      have hlen2 : ((enc 0 (rows.take i)).map tokW).length ≤ 30 := by rw [List.length_map]; have := List.length_take_le i rows; lia
      have G := W'.G
      refine asg_Tuple hA (wpas_cons ?_)
      repeat walk_at "s"
      refine wpas_cons ?_
      repeat walk_at "s"
      refine wpas_nil ?_
      refine WP.less ?_
      repeat walk_at "s"
      refine wpm_extend (by walk_at "mem") ?_
      repeat walk_at "s"
      have FE0 := FE
      refine wp_LC (ln' := ["one"]) (gn' := ["_law_own"]) (fs := []) (cs := []) FE (by walk_at "cp") (by decide +kernel) (by simp) ?_
      refine wpi_value ?_
      repeat walk_at "s"
      refine pi_list hA (.tail _ (.tail _ n1)) ?_
      intro b c cenv FE
      replace FE : FEnv cenv c ["one"] [] ["_law_own"] := FE
      refine turns_mapL (l := rw) (g := V.int) (f := fun z => .str (mkS (zw z))) FE (by lia) (fun i k o acc h => listItem_some (.tail _ (.tail _ (.tail _ (.tail _ n1)))) (by rw [List.getElem?_map, h]; rfl)) (fun o acc => listItem_none (.tail _ (.tail _ (.tail _ (.tail _ n1)))) (by simp)) (fun z hz acc => ?_) fun o => ?_
      · repeat walk_at "s"
        refine sp_own W' (hr.mono (by decide)) (Nat.lt_of_le_of_lt (e2 z hz) (by decide)) ?_
        exact ⟨rfl, .refl _⟩
      · refine ⟨_, _, .head, ?_⟩
        have FE := FE0
        repeat walk_at "s"
        intro mb
        repeat walk_at "s"
        refine op_add_list (by walk_at "mem") (by walk_at "mem") (by simp; lia) ?_
        intro eb
        repeat walk_at "s"
        refine c_extend (by walk_at "upd") (by walk_at "mem") (by simp; simp at hlen2; lia) ?_
        repeat walk_at "s"
        refine ⟨(dl, _) :: (L, _) :: R, .drop (.drop (.drop (.refl _))), turn_next ⟨some (.ref r1), some (.str (mkS [97 + i])), hlt, ?_⟩⟩
        rw [etk, eenc]
        simp only [strVs, List.map_append, List.map_map, List.map_cons, List.map_nil]
        rfl
    · right
      have : i = rows.length := by lia
      subst this
      rw [List.take_length]
      refine ⟨⟨rrs.map V.ref, strVs (marksW rows.length), .tail _ (.tail _ hB.hr.top), .tail _ (.tail _ hB.hm), .inr ⟨.inl (by simp; lia), rfl⟩⟩, ?_⟩
      refine wps_nil ?_
      refine WP.sub (H' := (L, _) :: (dl, _) :: R) (.pick (.tail .head) (.refl _)) ?_
      exact part13 W hr FE hR hne (hB.to fun p h => .tail _ h) (.tail _ hpb) (.tail _ hcS) hsys (.tail _ hh) (.head _) (.tail _ hll)
end
end
noncomputable section
theorem qGo_len : ∀ (k : Nat) (tok cs : List Nat) (n : Int), cs.length ≤ k → (qGo tok cs n).2.1.length ≤ cs.length
  | _, tok, [], n, _ => Nat.le_refl _
  | 0, tok, c :: cs, n, h => by simp at h
  | k + 1, tok, c :: cs, n, h => by
    by_cases h1 : c = 34
    · subst h1; rw [qGo_q]; simp
    · by_cases h2 : c = 92
      · subst h2
        cases cs with
        | nil => rw [qGo_e0]; simp
        | cons d ds =>
          rw [qGo_e]
          have := qGo_len k (tok ++ [d]) ds (lnN n d) (by simp at h; lia)
          simp; lia
      · rw [qGo_b h1 h2]
        have := qGo_len k (tok ++ [c]) cs (lnN n c) (by simpa using h)
        simp; lia
theorem bGo_len : ∀ (k : Nat) (tok cs : List Nat) (n : Int), cs.length ≤ k → (bGo tok cs n).2.1.length ≤ cs.length
  | _, tok, [], n, _ => Nat.le_refl _
  | 0, tok, c :: cs, n, h => by simp at h
  | k + 1, tok, c :: cs, n, h => by
    by_cases h1 : isW c = true
    · rw [bGo_w h1]; simp
    · have h1' : isW c = false := by simpa using h1
      by_cases h2 : c = 92
      · subst h2
        cases cs with
        | nil => rw [bGo_e0]; simp
        | cons d ds =>
          rw [bGo_e]
          have := bGo_len k (tok ++ [d]) ds (lnN n d) (by simp at h; lia)
          simp; lia
      · rw [bGo_b h1' h2]
        have := bGo_len k (tok ++ [c]) cs (lnN n c) (by simpa using h)
        simp; lia
theorem tGo_len : ∀ (cs : List Nat) (n : Int), (tGo cs n).2.1.length ≤ cs.length
  | [], n => Nat.le_refl _
  | c :: cs, n => by
    by_cases h1 : isW c = true
    · rw [tGo_ws h1]
      have := tGo_len cs (lnN n c)
      simp; lia
    · have h1' : isW c = false := by simpa using h1
      by_cases h3 : c = 34
      · subst h3
        rw [tGo_q]
        have := qGo_len cs.length [] cs n (Nat.le_refl _)
        simp; lia
      · by_cases h2 : c = 92
        · subst h2
          cases cs with
          | nil => rw [tGo_e0]; simp
          | cons d ds =>
            rw [tGo_e]
            have := bGo_len ds.length [d] ds (lnN n d) (Nat.le_refl _)
            simp; lia
        · rw [tGo_b h1' h3 h2]
          have := bGo_len cs.length [c] cs (lnN n c) (Nat.le_refl _)
          simp; lia
end
noncomputable section
theorem apL_bnd (n : Nat) : ∀ u ∈ apL n, 65 ≤ u.toNat ∧ u.toNat ≤ 80 := by
  induction n using Nat.strongRecOn with
  | _ n ih =>
    intro u hu
    by_cases h0 : n = 0
    · subst h0; rw [apL_zero] at hu; simp at hu
    · rw [apL_pos h0] at hu
      rcases List.mem_append.mp hu with hu | hu
      · exact ih (n / 16) (by lia) u hu
      · rw [List.mem_singleton.mp hu]
        have : (UInt8.ofNat (65 + n % 16)).toNat = 65 + n % 16 := by rw [UInt8.toNat_ofNat']; exact Nat.mod_eq_of_lt (by have := Nat.mod_lt n (show 0 < 16 by decide); lia)
        have := Nat.mod_lt n (show 0 < 16 by decide)
        lia
theorem isW_no {c : Nat} (h : 33 ≤ c) : isW c = false := by unfold isW; simp; lia
theorem words_ok {rows : List (List Int)} (h4 : rows.length ≤ 4) : ∀ w ∈ (enc 0 rows).map tokW, wordOk w := by
  intro w hw
  obtain ⟨t, ht, rfl⟩ := List.mem_map.mp hw
  rcases enc_mem 0 rows t ht with ⟨z, l, rfl, _, _⟩ | ⟨i, rfl, hi⟩
  · refine ⟨by simp [tokW, wz], fun s hs => ?_⟩
    rcases List.mem_cons.mp hs with h | h
    · subst h; split
      · exact ⟨by decide, .inl rfl⟩
      · exact ⟨by decide, .inr (.inl rfl)⟩
    · obtain ⟨u, hu, rfl⟩ := List.mem_map.mp h
      have := apL_bnd _ u hu
      exact ⟨by lia, .inr (.inr (isW_no (by lia)))⟩
  · refine ⟨by simp [tokW], fun s hs => ?_⟩
    simp [tokW] at hs
    subst hs
    exact ⟨by lia, .inr (.inr (isW_no (by lia)))⟩
theorem words_len {rows : List (List Int)} (hR : RowsOk rows) : ∀ w ∈ (enc 0 rows).map tokW, w.length ≤ 100 := by
  intro w hw
  obtain ⟨t, ht, rfl⟩ := List.mem_map.mp hw
  rcases enc_mem 0 rows t ht with ⟨z, l, rfl, h1, h2⟩ | ⟨i, rfl, hi⟩
  · have h3 := hR.small l h1 z h2
    have := apL_len 5 z.natAbs (Nat.lt_of_le_of_lt h3 (by decide))
    simp [tokW, wz]; lia
  · simp [tokW]
inductive HdI (Ws : List (List Nat)) (tx : List Nat) (c b m2 m1 : Addr) (K : AO → AO → AH) (fp pb : Addr) (i : Nat) (acc : List V) (H₁ : AH) : Prop
  | mk (h1 : i ≤ Ws.length + 2) (cs' : List Nat) (n' : Int) (ta rest : List (List Nat)) (p : Option V) (h2 : toks (Ws.length + 2 - i) cs' n' = (rest, [], 1 + nl tx)) (h3 : ta ++ rest = Ws ++ [[], []]) (h4 : ta.length = i) (h5 : acc = strVs ta) (h6 : cs'.length ≤ 80000)
    (e : H₁ = (c, .ns ["word"] [p]) :: (b, .list acc) :: (m2, .list (strVs (Ws ++ [[], []]))) :: (m1, .list [.str "", .str ""]) :: K (.list (signVs cs')) (.attrs (netA n' (.ref fp) pb))) : HdI Ws tx c b m2 m1 K fp pb i acc H₁
section
variable {C : Cfg} {a : Ad} {A : Around} {R : AH} {env : Env} {L rl ml cS cL cR : Addr} {rrs : List Addr} {rows : List (List Int)}
theorem part7 {v0 v1 v2 v3 v4 v5 v9 v10 v11 v12 v13 v14 v15 v16 v17 v18 : Option V} {wl cl : Addr} {cs : List Nat} (W : W3 C a) (hr : Room A 40) (FE : FEnv env L lawL [("struck", cS), ("line", cL), ("rows", cR)] lawG)
    (hR : RowsOk rows) (hne : rows ≠ []) (hrr : LL rl rrs (rows.map intVs) R) (hm : (ml, AO.list (strVs (marksW rows.length))) ∈ R) (hcS : (cS, AO.cell none) ∈ R) (hcL : (cL, AO.cell none) ∈ R) (hcR : (cR, AO.cell (some (.ref rl))) ∈ R) (hSL : cS ≠ cL) (hT : Tabs a R) (hsys : HasSys C)
    (hwl : (wl, AO.list (strVs ((enc 0 rows).map tokW))) ∈ R) (hcl : (cl, AO.list (natVs cs)) ∈ R) (hcs : ((enc 0 rows).map tokW).length ≤ cs.length) :
    WPS C A env (LB.drop 7) (QL a) ((L, .ns lawL [v0, v1, v2, v3, v4, v5, some (.ref ml), some (.ref wl), some (.ref cl), v9, v10, v11, v12, v13, v14, v15, v16, v17, v18]) :: R) := by
  have G := W.G
  have hA := hr.hd
  have hlen : ((enc 0 rows).map tokW).length ≤ 30 := by
    have := enc_len 0 rows
    have := tot_rows hR
    have := hR.few
    simp; lia
  have htx := toks_text ((enc 0 rows).map tokW) cs [] 1 hcs (words_ok hR.few) (by simp)
  rw [List.nil_append, nl_nil, Int.add_zero] at htx
  have htxl : (textG ((enc 0 rows).map tokW) cs).flatten.length ≤ 80000 := by
    have h := textG_le (cs := cs) (words_len hR) 30
    rw [List.take_of_length_le (by simp [textG]; simp at hlen; lia)] at h
    lia
  refine wps_cons ?_
  repeat walk_at "s"
  refine sp_text W (hr.mono (by decide)) (.tail _ hwl) (.tail _ hcl) hlen (words_len hR) ?_
  repeat walk_at "s"
  generalize (textG ((enc 0 rows).map tokW) cs).flatten = tx at htx htxl ⊢
  refine c_list_str hA (by rw [mkS_len]; lia) ?_
  intro ll
  have els : (mkS tx).cps.toList.map (fun c => V.str ⟨#[c]⟩) = signVs tx := rfl
  rw [els]
  repeat walk_at "s"
  refine sp_reader W (hr.mono (by decide)) (.tail _ (.tail _ hT.rd)) ?_
  intro x dx pb fd fp rd cl2
  obtain ⟨K1, hK1⟩ := hole_of_mem hcL
  have st : ∀ {p}, p ∈ R → p ≠ (cL, .cell none) → ∀ u, p ∈ K1 u := fun hp h1 u => hK1.stay u hp h1
  have eR := hK1.eq
  rw [eR]
  refine store_cell FE (x := "line") (.tail _ (.head _)) (.tail (.tail (.tail (.tail (.tail (.tail (.tail (.tail (.tail (hK1.upd _ _)))))))))) ?_
  refine wps_next ?_
  refine wps_cons ?_
  have FE0 := FE
  refine wp1_LC (ln' := ["word"]) (gn' := []) (fs := ["line"]) (cs := [cL]) FE (by walk_at "cp") (by decide +kernel) (by simp) (by walk_at "mem") (by decide +kernel) ?_
  refine wpi_value ?_
  have hwl1 := st hwl (fun e => nomatch e) (.cell (some (.ref x)))
  repeat walk_at "s"
  intro m1
  repeat walk_at "s"
  refine op_add_list (vs := strVs ((enc 0 rows).map tokW)) (by walk_at "mem") (by walk_at "mem") (by simp at hlen ⊢; lia) ?_
  intro m2
  have e5 : strVs ((enc 0 rows).map tokW) ++ [V.str "", V.str ""] = strVs ((enc 0 rows).map tokW ++ [[], []]) := by
    rw [strVs, strVs, List.map_append]; rfl
  rw [e5]
  refine pi_list hA (by walk_at "mem") ?_
  intro b c cenv FE
  replace FE : FEnv cenv c ["word"] [("line", cL)] [] := FE
  obtain ⟨K, hK⟩ : ∃ K : AO → AO → AH, K = fun u v => (x, AO.obj (instObj a.cls dx)) :: (dx, v) :: (pb, .list []) :: (fd, .attrs [("read", .ref rd)]) :: (fp, .fobj fd) :: (rd, .fn (F_lam [("left", cl2)])) :: (cl2, .cell (some (.ref ll))) :: (ll, u) :: (L, AO.ns lawL [v0, v1, v2, v3, v4, v5, some (.ref ml), some (.ref wl), some (.ref cl), v9, some (.str (mkS tx)), some (.ref ll), v12, v13, v14, v15, v16, v17, v18]) :: K1 (.cell (some (.ref x))) := ⟨_, rfl⟩
  have hk : ∀ u v, Hole2 ll u dx v (K u v) K := fun u v => by subst hK; exact .tail (.snd (.tail (.tail (.tail (.tail (.tail .head))))))
  have hRd : ∀ u v, Rd a x dx fp fd rd cl2 ll pb (K u v) := fun u v => by subst hK; exact ⟨by walk_at "mem", by walk_at "mem", by walk_at "mem", by walk_at "mem", by walk_at "mem"⟩
  have hpb : ∀ u v, (pb, AO.list []) ∈ K u v := fun u v => by subst hK; walk_at "mem"
  have hcL2 : ∀ u v, (cL, AO.cell (some (.ref x))) ∈ K u v := fun u v => by subst hK; have := hK1.mem (.cell (some (.ref x))); walk_at "mem"
  generalize hWs : (enc 0 rows).map tokW = Ws at htx hlen
  refine ⟨HdI Ws tx c b m2 m1 K fp pb, Ws.length + 2, ?_, ?_⟩
  · subst hK
    exact ⟨Nat.zero_le _, tx, 1, [], _, none, htx, rfl, rfl, rfl, by lia, rfl⟩
  · rintro i acc H₁ _ ⟨hi, cs', n', ta, rest, p, hg, hta, htl', rfl, hcs', rfl⟩
    by_cases hil : i < Ws.length + 2
    · left
      have hlen3 : (strVs (Ws ++ [[], []])).length = Ws.length + 2 := by simp
      refine ⟨(strVs (Ws ++ [[], []]))[i]'(by rw [hlen3]; exact hil), hil, ⟨_, by walk_at "mem", by rw [List.getElem?_eq_getElem (by rw [hlen3]; exact hil)]⟩, ?_⟩
      have hcR2 := hcL2 (.list (signVs cs')) (.attrs (netA n' (.ref fp) pb))
      have hx2 := (hRd (.list (signVs cs')) (.attrs (netA n' (.ref fp) pb))).x
      have hdx2 := (hk (.list (signVs cs')) (.attrs (netA n' (.ref fp) pb))).mem2 (.list (signVs cs')) (.attrs (netA n' (.ref fp) pb))
      repeat walk_at "s"
      refine ⟨fun _ => ?_, fun h => nomatch h⟩
      repeat walk_at "s"
      refine gm_get W (.tail _ (.tail _ (.tail _ (.tail _ hx2)))) (.tail _ (.tail _ (.tail _ (.tail _ hdx2)))) ?_
      repeat walk_at "s"
      have hni : Ws.length + 2 - i = (Ws.length + 2 - (i + 1)) + 1 := sub_s (by assumption)
      rw [hni, toks] at hg
      have hlt := tGo_len cs' n'
      generalize htg : tGo cs' n' = tg at hg hlt
      obtain ⟨tok, cs2, n2⟩ := tg
      dsimp only at hg hlt
      generalize htk2 : toks (Ws.length + 2 - (i + 1)) cs2 n2 = tk at hg
      obtain ⟨tk1, tk2⟩ := tk
      simp only [Prod.mk.injEq] at hg
      obtain ⟨rfl, rfl⟩ := hg
      refine sp_get_rd (K := fun u v => (c, .ns ["word"] [some ((strVs (Ws ++ [[], []]))[i]'(by rw [hlen3]; exact hil))]) :: (b, .list (strVs ta)) :: (m2, .list (strVs (Ws ++ [[], []]))) :: (m1, .list [.str "", .str ""]) :: K u v) W (hr.mono (by decide)) (.tail (.tail (.tail (.tail (hk _ _))))) hcs' (fun u v => ((((hRd u v).cons _).cons _).cons _).cons _) (fun u v => .tail _ (.tail _ (.tail _ (.tail _ (hpb u v))))) htg ?_
      refine ⟨by simp; lia, _, by walk_at "upd", hil, cs2, n2, ta ++ [tok], tk1, some ((strVs (Ws ++ [[], []]))[i]'(by rw [hlen3]; exact hil)), htk2, by rw [← hta]; simp, by simp [htl'], ?_, by lia, rfl⟩
      simp only [strVs, List.map_append, List.map_cons, List.map_nil]
    · right
      have FE := FE0
      have hi' : i = Ws.length + 2 := Nat.le_antisymm (by assumption) (Nat.le_of_not_lt (by assumption))
      subst hi'
      rw [Nat.sub_self, toks] at hg
      simp only [Prod.mk.injEq] at hg
      obtain ⟨rfl, rfl, rfl⟩ := hg
      rw [List.append_nil] at hta
      subst hta
      refine ⟨⟨_, by walk_at "mem", by simp⟩, ?_⟩
      subst hK
      refine Op1.sub (H' := (c, .ns ["word"] [p]) :: (L, _) :: (b, _) :: (x, .obj (instObj a.cls dx)) :: (dx, .attrs (netA (1 + nl tx) (.ref fp) pb)) :: (pb, .list []) :: (fd, .attrs [("read", .ref rd)]) :: (fp, .fobj fd) :: (rd, .fn (F_lam [("left", cl2)])) :: (cl2, .cell (some (.ref ll))) :: (ll, .list (signVs [])) :: K1 (.cell (some (.ref x)))) (.pick .head (.pick (.tail (.tail (.tail (.tail (.tail (.tail (.tail (.tail (.tail (.tail (.tail .head))))))))))) (.pick .head (.drop (.drop (.refl _)))))) ?_
      refine store_local FE (.tail .head) (by walk_at "put") ?_
      refine ⟨_, _, .head, ?_⟩
      refine wps_next ?_
      refine WP.nd fun nd => ?_
      have hnd : pb ≠ ll := by
        intro e; subst e
        simp [keys] at nd
      have k : ∀ p ∈ K1 (.cell (some (.ref x))), p ∈ (b, AO.list (strVs (Ws ++ [[], []]))) :: (x, .obj (instObj a.cls dx)) :: (dx, .attrs (netA (1 + nl tx) (.ref fp) pb)) :: (pb, .list []) :: (fd, .attrs [("read", .ref rd)]) :: (fp, .fobj fd) :: (rd, .fn (F_lam [("left", cl2)])) :: (cl2, .cell (some (.ref ll))) :: (ll, .list (signVs [])) :: K1 (.cell (some (.ref x))) := fun p h => .tail _ (.tail _ (.tail _ (.tail _ (.tail _ (.tail _ (.tail _ (.tail _ (.tail _ h))))))))
      have s2 : ∀ {p}, p ∈ R → p ≠ (cL, .cell none) → p ∈ (b, AO.list (strVs (Ws ++ [[], []]))) :: (x, .obj (instObj a.cls dx)) :: (dx, .attrs (netA (1 + nl tx) (.ref fp) pb)) :: (pb, .list []) :: (fd, .attrs [("read", .ref rd)]) :: (fp, .fobj fd) :: (rd, .fn (F_lam [("left", cl2)])) :: (cl2, .cell (some (.ref ll))) :: (ll, .list (signVs [])) :: K1 (.cell (some (.ref x))) := fun h h1 => k _ (st h h1 _)
      refine part11 (x := x) (dx := dx) (pb := pb) (fp := .ref fp) (rrs := rrs) (rows := rows) (rl := rl) (hl := b) (ll := ll) (cR := cR) (cS := cS) (cL := cL) W hr FE hR hne ⟨.tail _ (.head _), .tail _ (.tail _ (.head _)), ⟨s2 hrr.top (fun e => nomatch e), hrr.len, fun j r vs g1 g2 => s2 (hrr.sub j r vs g1 g2) (fun e => nomatch e)⟩, s2 hm (fun e => nomatch e), k _ (hK1.mem _), s2 hcR (fun e => hSL (by cases e)), ⟨s2 hT.i2d (fun e => nomatch e), s2 hT.d2i (fun e => nomatch e), s2 hT.rd (fun e => nomatch e)⟩, ⟨fp, fd, rd, cl2, ll, rfl, ⟨.tail _ (.head _), .tail _ (.tail _ (.tail _ (.tail _ (.tail _ (.head _))))), .tail _ (.tail _ (.tail _ (.tail _ (.head _)))), .tail _ (.tail _ (.tail _ (.tail _ (.tail _ (.tail _ (.head _)))))), .tail _ (.tail _ (.tail _ (.tail _ (.tail _ (.tail _ (.tail _ (.head _)))))))⟩, .tail _ (.tail _ (.tail _ (.tail _ (.tail _ (.tail _ (.tail _ (.tail _ (.head _)))))))), hnd⟩⟩ (.tail _ (.tail _ (.tail _ (.head _)))) (s2 hcS (fun e => hSL (Prod.mk.inj e).1)) hsys (by rw [hWs]; exact .head _) (.tail _ (.tail _ (.tail _ (.tail _ (.tail _ (.tail _ (.tail _ (.tail _ (.head _)))))))))
end
end
noncomputable section
noncomputable def rowB (b : List Nat) : List Int := b.map fun c : Nat => (c : Int) - 500
noncomputable def blR (bl : List (List Nat)) : List (List Int) := bl.map rowB
theorem rows_ok {bl : List (List Nat)} (h : BlOk bl) : RowsOk (blR bl) := by
  refine ⟨by rw [blR, List.length_map]; exact h.few, fun r hr => ?_, fun i j hij hj => ?_, fun r hr x hx => ?_⟩
  · obtain ⟨b, hb, rfl⟩ := List.mem_map.mp hr
    rw [rowB, List.length_map]; exact h.size b hb
  · rw [blR, List.length_map] at hj
    rcases Nat.lt_or_ge i j with hl | hl
    · have := List.pairwise_iff_getElem.mp h.up i j (by lia) hj hl
      simpa [blR, rowB, List.getD_eq_getElem?_getD, List.getElem?_eq_getElem hj, List.getElem?_eq_getElem (show i < bl.length by lia)] using this
    · have : i = j := by lia
      subst this; exact Nat.le_refl _
  · obtain ⟨b, hb, rfl⟩ := List.mem_map.mp hr
    obtain ⟨c, hc, rfl⟩ := List.mem_map.mp hx
    have := h.lt b hb c hc
    lia
inductive ZpI (bl : List (List Nat)) (vs us ts : List (Option V)) (wl cl L : Addr) (R : AH) (i : Nat) (H₁ : AH) : Prop
  | mk (u w : Option V) (cs : List Nat) (h : i ≤ bl.length) (h1 : cs.length = (enc 0 ((blR bl).take i)).length) (e : H₁ = (cl, .list (natVs cs)) :: (wl, .list (strVs ((enc 0 ((blR bl).take i)).map tokW))) :: (L, .ns lawL (vs ++ u :: us ++ w :: ts)) :: R) : ZpI bl vs us ts wl cl L R i H₁
section
variable {C : Cfg} {a : Ad} {A : Around} {R : AH} {env : Env} {L rl ml cS cL cR dl : Addr} {rrs drs : List Addr} {bl : List (List Nat)}
theorem part6 {v0 v1 v2 v4 v5 v9 v10 v11 v12 v13 v14 v15 v16 v17 v18 : Option V} {wl cl : Addr} (W : W3 C a) (hr : Room A 40) (FE : FEnv env L lawL [("struck", cS), ("line", cL), ("rows", cR)] lawG)
    (hB : BlOk bl) (hdd : LL dl drs (bl.map natVs) R) (hrr : LL rl rrs ((blR bl).map intVs) R) (hm : (ml, AO.list (strVs (marksW (blR bl).length))) ∈ R) (hcS : (cS, AO.cell none) ∈ R) (hcL : (cL, AO.cell none) ∈ R) (hcR : (cR, AO.cell (some (.ref rl))) ∈ R) (hSL : cS ≠ cL) (hT : Tabs a R) (hsys : HasSys C) :
    WPS C A env (LB.drop 6) (QL a) ((cl, .list []) :: (wl, .list []) :: (L, .ns lawL [v0, v1, v2, some (.ref dl), v4, v5, some (.ref ml), some (.ref wl), some (.ref cl), v9, v10, v11, v12, v13, v14, v15, v16, v17, v18]) :: R) := by
  have G := W.G
  have hA := hr.hd
  have hR := rows_ok hB
  have hJ4 := hB.few
  have hdl := hdd.len
  rw [List.length_map] at hdl
  have ebl : (blR bl).length = bl.length := by rw [blR, List.length_map]
  refine wps_cons ?_
  refine wp1_For (wpi_Call ?_)
  repeat walk_at "s"
  refine ci_zip hA (.tail _ (.tail _ (.tail _ hdd.top))) (.tail _ (.tail _ (.tail _ hm))) ?_
  intro bz
  have W' := W.hide [bz]
  refine ⟨ZpI bl [v0, v1, v2, some (.ref dl)] [v5, some (.ref ml), some (.ref wl), some (.ref cl)] [v10, v11, v12, v13, v14, v15, v16, v17, v18] wl cl L R, bl.length, ?_, ?_⟩
  · exact ⟨v4, v9, [], Nat.zero_le _, rfl, rfl⟩
  · rintro i H₁ ⟨u, w, cs, hi, hcs, rfl⟩
    simp only [List.cons_append, List.nil_append]
    by_cases hlt : i < bl.length
    · left
      have g1 : bl[i]? = some (bl.getD i []) := getD_some hlt
      have g2 : (blR bl)[i]? = some (rowB (bl.getD i [])) := by rw [blR, List.getElem?_map, g1]; rfl
      have n1 := hdd.sub i _ _ (getD_some (d := 0) (by lia)) (by rw [List.getElem?_map, g1]; rfl)
      have e1 := hB.size _ (List.mem_of_getElem? g1)
      have e2 := hB.lt _ (List.mem_of_getElem? g1)
      have etk : (blR bl).take (i + 1) = (blR bl).take i ++ [rowB (bl.getD i [])] := by
        rw [List.take_add_one, g2]; rfl
      have hel := enc_len 0 ((blR bl).take i)
      have het : tot ((blR bl).take i) ≤ 20 := by
        have h1 := tot_rows hR
        have : tot ((blR bl).take i) + tot ((blR bl).drop i) = tot (blR bl) := by
          rw [tot, tot, tot, ← List.sum_append, ← List.map_append, List.take_append_drop]
        lia
      have hln := List.length_take_le i (blR bl)
      have eenc := enc_snoc (rowB (bl.getD i [])) (by intro e; have := congrArg List.length e; rw [rowB, List.length_map, List.length_nil] at this; lia) 0 ((blR bl).take i)
      rw [List.length_take, Nat.min_eq_left (by lia), Nat.zero_add] at eenc
      refine ⟨.tup [.ref (drs.getD i 0), .str (mkS [97 + i])], hlt, ⟨drs.map V.ref, strVs (marksW (blR bl).length), .tail _ (.tail _ (.tail _ hdd.top)), .tail _ (.tail _ (.tail _ hm)), .inl ⟨_, _, ref_get (by lia), by simp [hlt, ebl], rfl⟩⟩, ?_⟩
      generalize bl.getD i [] = rw at n1 e1 e2 etk eenc g1 g2 ⊢
      generalize drs.getD i 0 = r1 at n1 ⊢
      have hlen2 : ((enc 0 ((blR bl).take i)).map tokW).length ≤ 30 := by rw [List.length_map]; lia
      have G := W'.G
      refine asg_Tuple hA (wpas_cons ?_)
      repeat walk_at "s"
      refine wpas_cons ?_
      repeat walk_at "s"
      refine wpas_nil ?_
      refine WP.less ?_
      repeat walk_at "s"
      refine wpm_extend (by walk_at "mem") ?_
      repeat walk_at "s"
      have FE0 := FE
      refine wp_LC (ln' := ["cell"]) (gn' := ["_law_word", "Int2AP"]) (fs := []) (cs := []) FE (by walk_at "cp") (by decide +kernel) (by simp) ?_
      refine wpi_value ?_
      repeat walk_at "s"
      refine pi_list hA (.tail _ (.tail _ (.tail _ n1))) ?_
      intro b c cenv FE
      replace FE : FEnv cenv c ["cell"] [] ["_law_word", "Int2AP"] := FE
      refine turns_mapL (l := rw) (g := fun n => V.int (n : Nat)) (f := fun (c : Nat) => .str (mkS (zw ((c : Int) - 500)))) FE (by lia) (fun i k o acc h => listItem_some (.tail _ (.tail _ (.tail _ (.tail _ (.tail _ n1))))) (by rw [List.getElem?_map, h]; rfl)) (fun o acc => listItem_none (.tail _ (.tail _ (.tail _ (.tail _ (.tail _ n1))))) (by simp)) (fun z hz acc => ?_) fun o => ?_
      · have hz2 := e2 z hz
        repeat walk_at "s"
        have hn5 : ((z : Int) - 500).natAbs < 16 ^ 5 := by lia
        refine sp_Int2AP W' (hr.mono (by decide)) (Nat.lt_trans hn5 (by decide +kernel)) ?_
        repeat walk_at "s"
        refine sp_wordB W' (hr.mono (by decide)) (by have := apL_len 5 _ hn5; simp; lia) ?_
        exact ⟨rfl, .refl _⟩
      · refine ⟨_, _, .head, ?_⟩
        have FE := FE0
        repeat walk_at "s"
        intro mb
        repeat walk_at "s"
        refine op_add_list (by walk_at "mem") (by walk_at "mem") (by simp; lia) ?_
        intro eb
        repeat walk_at "s"
        refine c_extend (by walk_at "upd") (by walk_at "mem") (by simp; simp at hlen2; lia) ?_
        repeat walk_at "s"
        refine wpm_extend (by walk_at "mem") ?_
        repeat walk_at "s"
        refine gi_list (v := .int ((rw.getD 0 0 : Nat) : Int)) (.tail _ (.tail _ (.tail _ (.tail _ (.tail _ (.tail _ n1)))))) (by decide) ?_ (by simp; lia) ?_
        · rw [List.getElem?_map, Int.toNat_zero, getD_some (d := 0) (show 0 < rw.length by lia)]; rfl
        repeat walk_at "s"
        refine op_floordiv_int (by decide) (PyProof.noPylong_small (by decide)) ?_
        rw [show ((rw.getD 0 0 : Nat) : Int).fdiv 3 = ((rw.getD 0 0 / 3 : Nat) : Int) from fdiv_nat _ 3]
        repeat walk_at "s"
        intro mc
        repeat walk_at "s"
        refine op_add_list (.tail _ (.tail _ (.tail _ (.tail _ (.tail _ (.tail _ (.tail _ n1))))))) (.head _) (by simp; lia) ?_
        intro ec
        repeat walk_at "s"
        refine c_extend (by walk_at "upd") (by walk_at "mem") (by rw [List.length_map] at hlen2; simp; lia) ?_
        repeat walk_at "s"
        refine ⟨(cl, _) :: (wl, _) :: (L, _) :: R, .drop (.drop (.drop (.drop (.drop (.refl _))))), turn_next ⟨some (.ref r1), some (.str (mkS [97 + i])), cs ++ (rw ++ [rw.getD 0 0 / 3]), hlt, ?_, ?_⟩⟩
        · rw [etk, eenc]; simp [hcs, rowB]
        rw [etk, eenc]
        simp only [strVs, List.map_append, List.map_map, List.map_cons, List.map_nil, rowB]
        rfl
    · right
      have : i = bl.length := by lia
      subst this
      rw [← ebl, List.take_length] at hcs ⊢
      refine ⟨⟨drs.map V.ref, strVs (marksW (blR bl).length), .tail _ (.tail _ (.tail _ hdd.top)), .tail _ (.tail _ (.tail _ hm)), .inr ⟨.inl (by simp; lia), rfl⟩⟩, ?_⟩
      refine wps_nil ?_
      refine WP.sub (H' := (L, _) :: (cl, _) :: (wl, _) :: R) (.pick (.tail (.tail .head)) (.refl _)) ?_
      exact part7 (rows := blR bl) (rrs := rrs) (rl := rl) W hr FE hR (fun e => hB.ne (by simpa [blR] using e)) (hrr.to fun p h => .tail _ (.tail _ h)) (.tail _ (.tail _ hm)) (.tail _ (.tail _ hcS)) (.tail _ (.tail _ hcL)) (.tail _ (.tail _ hcR)) hSL (hT.to fun p h => .tail _ (.tail _ h)) hsys (.tail _ (.head _)) (.head _) (by rw [List.length_map, hcs]; exact Nat.le_refl _)
end
end
noncomputable section
inductive LwM (cS cL cR L sl : Addr) (H : AH) (H₁ : AH) : Prop
  | mk (n : Nat) (o : Option V) (h1 : n < 10 ^ 72) (h2 : H₁ = (cS, .cell none) :: (cL, .cell none) :: (cR, .cell none) :: (L, AO.ns lawL [some (.ref sl), some (.int n), o, none, none, none, none, none, none, none, none, none, none, none, none, none, none, none, none]) :: H) : LwM cS cL cR L sl H H₁
inductive LwN (ms : List Int) (s1 cS cL cR L sl : Addr) (H : AH) (i : Nat) (H₁ : AH) : Prop
  | mk (h1 : i ≤ ms.length) (n : Nat) (o : Option V) (h2 : n < 10 ^ 72) (h3 : H₁ = (s1, .list (intVs ms)) :: (cS, .cell none) :: (cL, .cell none) :: (cR, .cell none) :: (L, AO.ns lawL [some (.ref sl), some (.int n), o, none, none, none, none, none, none, none, none, none, none, none, none, none, none, none, none]) :: H) : LwN ms s1 cS cL cR L sl H i H₁
section
variable {C : Cfg} {a : Ad} {A : Around} {R H : AH} {env : Env} {L rl ml cS cL cR dl : Addr} {rrs drs : List Addr} {bl : List (List Nat)}
theorem part4 {v0 v1 v2 v4 v5 v6 v7 v8 v9 v10 v11 v12 v13 v14 v15 v16 v17 v18 : Option V} (W : W3 C a) (hr : Room A 40) (FE : FEnv env L lawL [("struck", cS), ("line", cL), ("rows", cR)] lawG)
    (hB : BlOk bl) (hdd : LL dl drs (bl.map natVs) R) (hrr : LL rl rrs ((blR bl).map intVs) R) (hcS : (cS, AO.cell none) ∈ R) (hcL : (cL, AO.cell none) ∈ R) (hcR : (cR, AO.cell (some (.ref rl))) ∈ R) (hSL : cS ≠ cL) (hT : Tabs a R) (hsys : HasSys C) :
    WPS C A env (LB.drop 4) (QL a) ((L, .ns lawL [v0, v1, v2, some (.ref dl), v4, v5, v6, v7, v8, v9, v10, v11, v12, v13, v14, v15, v16, v17, v18]) :: R) := by
  have G := W.G
  have hA := hr.hd
  have hJ4 := hB.few
  have hrl := hrr.len
  have ebl : (blR bl).length = bl.length := by rw [blR, List.length_map]
  rw [List.length_map] at hrl
  have FE0 := FE
  refine wps_cons (wp1_LC (ln' := ["j"]) (gn' := ["chr"]) (fs := []) (cs := []) FE (by walk_at "cp") (by decide +kernel) (by simp) (by walk_at "mem") (by decide +kernel) ?_)
  refine wpi_Call ?_
  repeat walk_at "s"
  refine c_len_list (.tail _ hrr.top) (by simp; lia) ?_
  rw [List.length_map, hrl]
  repeat walk_at "s"
  refine ci_range1 hA (by lia) ?_
  intro ml c cenv FE
  replace FE : FEnv cenv c ["j"] [] ["chr"] := FE
  refine turns_mapL (l := List.range (blR bl).length) (g := fun j => V.int (j : Nat)) (f := fun j => .str (mkS [97 + j])) FE (by simp; lia) (fun i k o acc h => ?_) (fun o acc => range_none (by simp)) (fun j hj acc => ?_) fun o => ?_
  · obtain ⟨hk, rfl⟩ := List.getElem?_eq_some_iff.mp h
    rw [List.length_range] at hk
    rw [List.getElem_range]
    exact range_some (by lia)
  · have hj2 := List.mem_range.mp hj
    repeat walk_at "s"
    refine c_chr (by lia) (by lia) ?_
    exact ⟨by rw [show (97 + (j : Int)).toNat = 97 + j by lia], .refl _⟩
  · have em : (List.range (blR bl).length).map (fun j => V.str (mkS [97 + j])) = strVs (marksW (blR bl).length) := by rw [strVs, List.map_map]; rfl
    rw [em]
    refine Op1.sub (H' := (c, _) :: (L, _) :: (ml, _) :: R) (.pick .head (.pick (.tail .head) (.refl _))) ?_
    refine store_local FE0 (.tail .head) (by walk_at "put") ?_
    refine ⟨_, _, .head, ?_⟩
    refine wps_next ?_
    have FE := FE0
    refine wps_cons ?_
    refine wp1_swap2 FE hA (by walk_at "mem") (by walk_at "mem") ?_
    repeat walk_at "s"
    intro wl
    repeat walk_at "s"
    intro cl
    refine store_local FE (by walk_at "upd") (by walk_at "put") ?_
    refine store_local FE (by walk_at "upd") (by walk_at "put") ?_
    refine wps_next ?_
    exact part6 (R := (ml, _) :: R) W hr FE hB (hdd.to fun p h => .tail _ h) (hrr.to fun p h => .tail _ h) (.head _) (.tail _ hcS) (.tail _ hcL) (.tail _ hcR) hSL (hT.to fun p h => .tail _ h) hsys
theorem part3 {v0 v1 v2 v4 v5 v6 v7 v8 v9 v10 v11 v12 v13 v14 v15 v16 v17 v18 : Option V} (W : W3 C a) (hr : Room A 40) (FE : FEnv env L lawL [("struck", cS), ("line", cL), ("rows", cR)] lawG)
    (hB : BlOk bl) (hdd : LL dl drs (bl.map natVs) R) (hSL : cS ≠ cL) (hT : Tabs a R) (hsys : HasSys C) :
    WPS C A env (LB.drop 3) (QL a) ((L, .ns lawL [v0, v1, v2, some (.ref dl), v4, v5, v6, v7, v8, v9, v10, v11, v12, v13, v14, v15, v16, v17, v18]) :: (cS, .cell none) :: (cL, .cell none) :: (cR, .cell none) :: R) := by
  have G := W.G
  have hA := hr.hd
  have hJ4 := hB.few
  have hdl := hdd.len
  rw [List.length_map] at hdl
  have FE0 := FE
  refine wps_cons (wp1_Assign_Name (wp_LC (ln' := ["block"]) (gn' := []) (fs := []) (cs := []) FE (by walk_at "cp") (by decide +kernel) (by simp) ?_) (hs := swaps_cell FE (.tail _ (.tail _ (.head _)))))
  refine wpi_value ?_
  repeat walk_at "s"
  have q0 := hdd.top
  refine pi_list hA (by walk_at "mem") ?_
  intro rl c cenv FE
  replace FE : FEnv cenv c ["block"] [] [] := FE
  refine turns_newL (l := List.range bl.length) (g := fun j => .ref (drs.getD j 0)) (f := fun j => intVs (rowB (bl.getD j []))) FE (by simp; lia) (fun i k o acc P hP h => ?_) (fun o acc P hP => listItem_none (.tail _ (.tail _ (hP _ (by walk_at "mem")))) (by simp; lia)) (fun i j hj acc P hP => ?_) fun o rs hrs => ?_
  · obtain ⟨hk, rfl⟩ := List.getElem?_eq_some_iff.mp h
    rw [List.length_range] at hk
    rw [List.getElem_range]
    exact listItem_some (.tail _ (.tail _ (hP _ (by walk_at "mem")))) (by rw [List.getElem?_map, getD_some (d := 0) (by lia)]; rfl)
  · have hj2 : j < bl.length := by have := List.mem_of_getElem? hj; simpa using this
    have hbj : bl[j]? = some (bl.getD j []) := getD_some hj2
    have e1 := hB.size _ (List.mem_of_getElem? hbj)
    have e2 := hB.lt _ (List.mem_of_getElem? hbj)
    have n1 := hP _ (.tail _ (.tail _ (.tail _ (.tail _ (hdd.sub j _ _ (getD_some (d := 0) (by lia)) (by rw [List.getElem?_map, hbj]; rfl))))))
    generalize bl.getD j [] = t at hbj e1 e2 n1 ⊢
    generalize drs.getD j 0 = r1 at n1 ⊢
    refine wp_LC (ln' := ["cell"]) (gn' := []) (fs := []) (cs := []) FE (by walk_at "cp") (by decide +kernel) (by simp) ?_
    refine wpi_value ?_
    repeat walk_at "s"
    refine pi_list hA (.tail _ (.tail _ n1)) ?_
    intro b c2 cenv2 FE
    replace FE : FEnv cenv2 c2 ["cell"] [] [] := FE
    refine turns_mapL (l := t) (g := fun n => V.int (n : Nat)) (f := fun (n : Nat) => .int ((n : Int) - 500)) FE (by lia) (fun i k o acc h => listItem_some (.tail _ (.tail _ (.tail _ (.tail _ n1)))) (by rw [List.getElem?_map, h]; rfl)) (fun o acc => listItem_none (.tail _ (.tail _ (.tail _ (.tail _ n1)))) (by simp)) (fun z hz acc => ?_) fun o => ?_
    · repeat walk_at "s"
      exact ⟨rfl, .refl _⟩
    · refine ⟨_, _, .head, b, rfl, ?_⟩
      have : (t.map fun (n : Nat) => V.int ((n : Int) - 500)) = intVs (rowB t) := by simp [rowB]
      rw [this]
      exact .pick (.tail .head) (.pick (.tail .head) (.pick .head (.refl _)))
  · refine ⟨_, _, .head, ?_⟩
    have FE := FE0
    have ev : (List.range bl.length).map (fun j => intVs (rowB (bl.getD j []))) = (blR bl).map intVs := by
      refine List.ext_getElem (by simp [blR]) fun i h1 h2 => ?_
      simp only [List.getElem_map, List.getElem_range, blR]
      rw [List.getD_eq_getElem?_getD, List.getElem?_eq_getElem (by simpa [blR] using h2)]; simp
    rw [ev]
    rw [List.length_range] at hrs
    refine store_cell FE (x := "rows") (.tail _ (.tail _ (.head _))) (.tail (.app (.tail (.tail (.tail .head))))) ?_
    refine wps_next ?_
    refine WP.sub (H' := (L, _) :: (rl, .list (rs.map V.ref)) :: (nls rs ((blR bl).map intVs) ++ (cS, .cell none) :: (cL, .cell none) :: (cR, .cell (some (.ref rl))) :: R)) (.pick (.tail .app) (.refl _)) ?_
    refine part4 (rl := rl) (rrs := rs) (dl := dl) (drs := drs) W hr FE hB (hdd.to fun p h => .tail _ (List.mem_append_right _ (.tail _ (.tail _ (.tail _ h))))) ⟨.head _, by rw [List.length_map, blR, List.length_map]; exact hrs, fun j r vs g1 g2 => .tail _ (nl_mem g1 g2)⟩ (.tail _ (List.mem_append_right _ (.head _))) (.tail _ (List.mem_append_right _ (.tail _ (.head _)))) (.tail _ (List.mem_append_right _ (.tail _ (.tail _ (.head _))))) hSL (hT.to fun p h => .tail _ (List.mem_append_right _ (.tail _ (.tail _ (.tail _ h))))) hsys
theorem part2 {n : Nat} {v0 v2 v3 v4 v5 v6 v7 v8 v9 v10 v11 v12 v13 v14 v15 v16 v17 v18 : Option V} (W : W3 C a) (hr : Room A 40) (FE : FEnv env L lawL [("struck", cS), ("line", cL), ("rows", cR)] lawG) (hn : n < 10 ^ 72) (hT : Tabs a H) (hsys : HasSys C) :
    WPS C A env (LB.drop 2) (QL a) ((L, .ns lawL [v0, some (.int n), v2, v3, v4, v5, v6, v7, v8, v9, v10, v11, v12, v13, v14, v15, v16, v17, v18]) :: (cS, .cell none) :: (cL, .cell none) :: (cR, .cell none) :: H) := by
  have G := W.G
  have hA := hr.hd
  refine wps_cons ?_
  repeat walk_at "s"
  refine sp_blocks W (hr.mono (by decide)) hn ?_
  intro bl rs r hB hl
  refine Op1.sub (H' := (L, _) :: (cS, .cell none) :: (cL, .cell none) :: (cR, .cell none) :: (r, .list (rs.map V.ref)) :: (nls rs (bl.map natVs) ++ H)) (.pick (.tail .app) (.pick (.tail .app) (.pick (.tail .app) (.pick (.tail .app) (.refl _))))) ?_
  refine store_local FE .head (by walk_at "put") ?_
  refine wps_next ?_
  refine WP.nd fun nd => ?_
  have hSL : cS ≠ cL := by
    intro e; subst e
    simp [keys] at nd
  exact part3 (drs := rs) W hr FE hB ⟨.head _, by rw [List.length_map]; exact hl, fun j r vs g1 g2 => .tail _ (nl_mem g1 g2)⟩ hSL (hT.to fun p h => .tail _ (List.mem_append_right _ h)) hsys
theorem sp_law {aL sl : Addr} {cd : Value} {its : Array Value} {ns : List Int} {H : AH} (W : W3 C a) (hr : Room A 41) (hF : FnAt C.B aL F_law cd) (hsl : C.B.IsList sl its) (hns : IntsAre its.toList ns) (hnz : ns.length ≤ 1000) (hT : Tabs a H) (hsys : HasSys C) :
    CodeC C A aL [.ref sl] (fun v H' => v = .bool true ∧ Tabs a H') H := by
  have G := W.G
  refine code_okC ok_law G (fun s R => hF.keeps R.keep) hr rfl rfl rfl (vals := [some (.ref sl), none, none, none, none, none, none, none, none, none, none, none, none, none, none, none, none, none, none]) rfl (VOk.get (.some .head (.rest rfl))) fun L cs A' env hcs hr' FE he => ?_
  · obtain ⟨cS, cL, cR, rfl⟩ := cells3 hcs
    refine ⟨_, .other (.other (.other .nil)), ?_⟩
    have hA := hr'.hd
    simp only [List.cons_append, List.nil_append]
    repeat walk_at "s"
    refine wp1_mid (LwM cS cL cR L sl H) ?_ ?_
    · refine wp1_For (wpi_value ?_)
      repeat walk_at "s"
      refine gs_base hsl hns (by decide) (by lia) ?_
      intro s1
      rw [show pySlice (intVs ns) none (some 60) none = intVs (ns.take 60) by rw [show (60 : Int) = ((60 : Nat) : Int) from rfl, pySlice_upto]; simp]
      generalize ns.take 60 = ms
      refine pi_list hA (by walk_at "mem") ?_
      refine ⟨LwN ms s1 cS cL cR L sl H, ms.length, ?_, ?_⟩
      · exact ⟨Nat.zero_le _, 712333905431268550874123999007642381750499516495500507480503912657824073, none, by decide, rfl⟩
      · rintro i H₁ ⟨hi, n, o, hn, rfl⟩
        by_cases hlt : i < ms.length
        · left
          refine ⟨.int ms[i], hlt, ⟨intVs ms, by walk_at "mem", by simp [hlt]⟩, ?_⟩
          repeat walk_at "s"
          refine op_mul_int (mulOk (k := 10) (l := 250) (by decide) (by rw [Int.natAbs_natCast]; exact Nat.lt_trans hn (by decide)) (by decide)) ?_
          repeat walk_at "s"
          refine op_pow_int (by decide) (by decide) ?_
          refine op_mod_int (by decide +kernel) ?_
          have hp : (0 : Int) < (10 : Int) ^ (72 : Int).toNat := by decide +kernel
          have hm1 := Int.fmod_nonneg_of_pos (7 * (n : Int) + ms[i]) hp
          have hm2 := Int.fmod_lt_of_pos (7 * (n : Int) + ms[i]) hp
          generalize (7 * (n : Int) + ms[i]).fmod ((10 : Int) ^ (72 : Int).toNat) = z at hm1 hm2
          obtain ⟨m, rfl⟩ := Int.eq_ofNat_of_zero_le hm1
          have hmm : m < 10 ^ 72 := by
            have e : (10 : Int) ^ (72 : Int).toNat = ((10 ^ 72 : Nat) : Int) := by decide +kernel
            rw [e] at hm2
            exact Int.ofNat_lt.mp hm2
          repeat walk_at "s"
          exact ⟨hlt, m, some (.int ms[i]), hmm, rfl⟩
        · right
          have hi' : i = ms.length := by lia
          subst hi'
          refine ⟨⟨intVs ms, by walk_at "mem", by simp⟩, ?_⟩
          refine WP.sub (.drop (.refl _)) ?_
          repeat walk_at "s"
          exact ⟨rfl, n, o, hn, rfl⟩
    · rintro H₁ ⟨n, o, hn, rfl⟩
      refine WP.sub (H' := (L, _) :: (cS, _) :: (cL, _) :: (cR, _) :: H) (.pick (.tail (.tail (.tail .head))) (.pick .head (.pick .head (.pick .head (.refl _))))) ?_
      exact part2 W hr' FE hn hT hsys
end
end
noncomputable section
structure KOk3 (K : Frag) (a : Ad) (aL : Addr) : Prop where
  b_int : nsIn K mainGlobals "int" = some none
  b_abs : nsIn K mainGlobals "abs" = some none
  b_divmod : nsIn K mainGlobals "divmod" = some none
  b_len : nsIn K mainGlobals "len" = some none
  b_reversed : nsIn K mainGlobals "reversed" = some none
  b_range : nsIn K mainGlobals "range" = some none
  b_zip : nsIn K mainGlobals "zip" = some none
  b_enumerate : nsIn K mainGlobals "enumerate" = some none
  b_list : nsIn K mainGlobals "list" = some none
  b_chr : nsIn K mainGlobals "chr" = some none
  b_ord : nsIn K mainGlobals "ord" = some none
  b_iter : nsIn K mainGlobals "iter" = some none
  b_sum : nsIn K mainGlobals "sum" = some none
  b_min : nsIn K mainGlobals "min" = some none
  i_div : intIn K "_DIV_LIMIT" = some 4000
  g_ap : nsIn K mainGlobals "Int2AP" = some (some (.ref a.ap))
  g_div2 : nsIn K mainGlobals "_div2n1n" = some (some (.ref a.div2))
  g_i2d : nsIn K mainGlobals "_int2digits" = some (some (.ref a.i2d))
  g_d2i : nsIn K mainGlobals "_digits2int" = some (some (.ref a.d2i))
  g_dmp : nsIn K mainGlobals "_divmod_pos" = some (some (.ref a.dmp))
  g_idm : nsIn K mainGlobals "int_divmod" = some (some (.ref a.idm))
  g_cls : nsIn K mainGlobals "_netrclex" = some (some (.ref a.cls))
  g_reader : nsIn K mainGlobals "_law_reader" = some (some (.ref a.reader))
  g_word : nsIn K mainGlobals "_law_word" = some (some (.ref a.word))
  g_own : nsIn K mainGlobals "_law_own" = some (some (.ref a.own))
  g_number : nsIn K mainGlobals "_law_number" = some (some (.ref a.number))
  g_blocks : nsIn K mainGlobals "_law_blocks" = some (some (.ref a.blocks))
  g_text : nsIn K mainGlobals "_law_text" = some (some (.ref a.text))
  g_round : nsIn K mainGlobals "_law_round" = some (some (.ref a.round))
  g_last : nsIn K mainGlobals "_law_last" = some (some (.ref a.last))
  g_ahead : nsIn K mainGlobals "_law_ahead" = some (some (.ref a.ahead))
  t_ap : fnTup K a.ap = some (F_Int2AP.qual, F_Int2AP.params, F_Int2AP.body, F_Int2AP.scope, F_Int2AP.closure, mainGlobals, builtinsNs, .none, .none, .ref (codeAt K a.ap))
  q_ap : codeQ K (codeAt K a.ap) = some F_Int2AP.qual
  t_div2 : fnTup K a.div2 = some (F_div2n1n.qual, F_div2n1n.params, F_div2n1n.body, F_div2n1n.scope, F_div2n1n.closure, mainGlobals, builtinsNs, .none, .none, .ref (codeAt K a.div2))
  q_div2 : codeQ K (codeAt K a.div2) = some F_div2n1n.qual
  t_i2d : fnTup K a.i2d = some (F_int2digits.qual, F_int2digits.params, F_int2digits.body, F_int2digits.scope, F_int2digits.closure, mainGlobals, builtinsNs, .none, .none, .ref (codeAt K a.i2d))
  q_i2d : codeQ K (codeAt K a.i2d) = some F_int2digits.qual
  t_d2i : fnTup K a.d2i = some (F_digits2int.qual, F_digits2int.params, F_digits2int.body, F_digits2int.scope, F_digits2int.closure, mainGlobals, builtinsNs, .none, .none, .ref (codeAt K a.d2i))
  q_d2i : codeQ K (codeAt K a.d2i) = some F_digits2int.qual
  t_dmp : fnTup K a.dmp = some (F_divmod_pos.qual, F_divmod_pos.params, F_divmod_pos.body, F_divmod_pos.scope, F_divmod_pos.closure, mainGlobals, builtinsNs, .none, .none, .ref (codeAt K a.dmp))
  q_dmp : codeQ K (codeAt K a.dmp) = some F_divmod_pos.qual
  t_idm : fnTup K a.idm = some (F_int_divmod.qual, F_int_divmod.params, F_int_divmod.body, F_int_divmod.scope, F_int_divmod.closure, mainGlobals, builtinsNs, .none, .none, .ref (codeAt K a.idm))
  q_idm : codeQ K (codeAt K a.idm) = some F_int_divmod.qual
  t_reader : fnTup K a.reader = some (F_reader.qual, F_reader.params, F_reader.body, F_reader.scope, F_reader.closure, mainGlobals, builtinsNs, .none, .none, .ref (codeAt K a.reader))
  q_reader : codeQ K (codeAt K a.reader) = some F_reader.qual
  t_word : fnTup K a.word = some (F_word.qual, F_word.params, F_word.body, F_word.scope, F_word.closure, mainGlobals, builtinsNs, .none, .none, .ref (codeAt K a.word))
  q_word : codeQ K (codeAt K a.word) = some F_word.qual
  t_own : fnTup K a.own = some (F_own.qual, F_own.params, F_own.body, F_own.scope, F_own.closure, mainGlobals, builtinsNs, .none, .none, .ref (codeAt K a.own))
  q_own : codeQ K (codeAt K a.own) = some F_own.qual
  t_number : fnTup K a.number = some (F_number.qual, F_number.params, F_number.body, F_number.scope, F_number.closure, mainGlobals, builtinsNs, .none, .none, .ref (codeAt K a.number))
  q_number : codeQ K (codeAt K a.number) = some F_number.qual
  t_blocks : fnTup K a.blocks = some (F_blocks.qual, F_blocks.params, F_blocks.body, F_blocks.scope, F_blocks.closure, mainGlobals, builtinsNs, .none, .none, .ref (codeAt K a.blocks))
  q_blocks : codeQ K (codeAt K a.blocks) = some F_blocks.qual
  t_text : fnTup K a.text = some (F_text.qual, F_text.params, F_text.body, F_text.scope, F_text.closure, mainGlobals, builtinsNs, .none, .none, .ref (codeAt K a.text))
  q_text : codeQ K (codeAt K a.text) = some F_text.qual
  t_round : fnTup K a.round = some (F_round.qual, F_round.params, F_round.body, F_round.scope, F_round.closure, mainGlobals, builtinsNs, .none, .none, .ref (codeAt K a.round))
  q_round : codeQ K (codeAt K a.round) = some F_round.qual
  t_last : fnTup K a.last = some (F_last.qual, F_last.params, F_last.body, F_last.scope, F_last.closure, mainGlobals, builtinsNs, .none, .none, .ref (codeAt K a.last))
  q_last : codeQ K (codeAt K a.last) = some F_last.qual
  t_ahead : fnTup K a.ahead = some (F_ahead.qual, F_ahead.params, F_ahead.body, F_ahead.scope, F_ahead.closure, mainGlobals, builtinsNs, .none, .none, .ref (codeAt K a.ahead))
  q_ahead : codeQ K (codeAt K a.ahead) = some F_ahead.qual
  t_fInit : fnTup K a.fInit = some (F_init.qual, F_init.params, F_init.body, F_init.scope, F_init.closure, mainGlobals, builtinsNs, .none, .none, .ref (codeAt K a.fInit))
  q_fInit : codeQ K (codeAt K a.fInit) = some F_init.qual
  t_fRead : fnTup K a.fRead = some (F_read.qual, F_read.params, F_read.body, F_read.scope, F_read.closure, mainGlobals, builtinsNs, .none, .none, .ref (codeAt K a.fRead))
  q_fRead : codeQ K (codeAt K a.fRead) = some F_read.qual
  t_fGet : fnTup K a.fGet = some (F_get.qual, F_get.params, F_get.body, F_get.scope, F_get.closure, mainGlobals, builtinsNs, .none, .none, .ref (codeAt K a.fGet))
  q_fGet : codeQ K (codeAt K a.fGet) = some F_get.qual
  t_fPush : fnTup K a.fPush = some (F_push.qual, F_push.params, F_push.body, F_push.scope, F_push.closure, mainGlobals, builtinsNs, .none, .none, .ref (codeAt K a.fPush))
  q_fPush : codeQ K (codeAt K a.fPush) = some F_push.qual
  g_law : nsIn K mainGlobals "law" = some (some (.ref aL))
  t_law : fnTup K aL = some (F_law.qual, F_law.params, F_law.body, F_law.scope, F_law.closure, mainGlobals, builtinsNs, .none, .none, .ref (codeAt K aL))
  q_law : codeQ K (codeAt K aL) = some F_law.qual
  cls : Cls3 K a
  sys : (List.lookup sysModules K).isSome = true
theorem W3.of_K {K : Frag} {a : Ad} {aL : Addr} {B : Heap} {p prog : Program} {loose : List Str} {mean : ExcName → Option Value} {mg mb : Str → Option Value} {w : World} {os : OsState} (k : KOk3 K a aL) (X : K.In B) (T : Top p loose mean mg mb B)
    (h1 : CodeHd B (codeAt K a.i2d) a.pI2d) (h2 : CodeHd B (codeAt K a.d2i) a.pD2i) (h3 : CodeHd B (codeAt K a.reader) a.pReader) : W3 ⟨prog, w, K, B, os, [], mg, mb⟩ a where
  G := {
    kin := X
    g := T.g
    b := T.b
    nolimit := T.nolimit
    bmain := T.bmain
    gl := List.forall_mem_cons.mpr ⟨gl_ty (n := "int") X T.g T.builtins k.b_int (by decide +kernel) (by decide +kernel), List.forall_mem_cons.mpr ⟨gl_bi (n := "abs") X T.g T.builtins k.b_abs (by decide +kernel) (by decide +kernel), List.forall_mem_cons.mpr ⟨gl_bi (n := "divmod") X T.g T.builtins k.b_divmod (by decide +kernel) (by decide +kernel), List.forall_mem_cons.mpr ⟨gl_bi (n := "len") X T.g T.builtins k.b_len (by decide +kernel) (by decide +kernel), List.forall_mem_cons.mpr ⟨gl_ty (n := "reversed") X T.g T.builtins k.b_reversed (by decide +kernel) (by decide +kernel), List.forall_mem_cons.mpr ⟨gl_ty (n := "range") X T.g T.builtins k.b_range (by decide +kernel) (by decide +kernel), List.forall_mem_cons.mpr ⟨gl_ty (n := "zip") X T.g T.builtins k.b_zip (by decide +kernel) (by decide +kernel), List.forall_mem_cons.mpr ⟨gl_ty (n := "enumerate") X T.g T.builtins k.b_enumerate (by decide +kernel) (by decide +kernel), List.forall_mem_cons.mpr ⟨gl_ty (n := "list") X T.g T.builtins k.b_list (by decide +kernel) (by decide +kernel), List.forall_mem_cons.mpr ⟨gl_bi (n := "chr") X T.g T.builtins k.b_chr (by decide +kernel) (by decide +kernel), List.forall_mem_cons.mpr ⟨gl_bi (n := "ord") X T.g T.builtins k.b_ord (by decide +kernel) (by decide +kernel), List.forall_mem_cons.mpr ⟨gl_bi (n := "iter") X T.g T.builtins k.b_iter (by decide +kernel) (by decide +kernel), List.forall_mem_cons.mpr ⟨gl_bi (n := "sum") X T.g T.builtins k.b_sum (by decide +kernel) (by decide +kernel), List.forall_mem_cons.mpr ⟨gl_bi (n := "min") X T.g T.builtins k.b_min (by decide +kernel) (by decide +kernel), List.forall_mem_cons.mpr ⟨gl_int X T.g k.i_div, List.forall_mem_cons.mpr ⟨gl_fn X T.g k.g_ap, List.forall_mem_cons.mpr ⟨gl_fn X T.g k.g_div2, List.forall_mem_cons.mpr ⟨gl_fn X T.g k.g_i2d, List.forall_mem_cons.mpr ⟨gl_fn X T.g k.g_d2i, List.forall_mem_cons.mpr ⟨gl_fn X T.g k.g_dmp, List.forall_mem_cons.mpr ⟨gl_fn X T.g k.g_idm, List.forall_mem_cons.mpr ⟨gl_fn X T.g k.g_cls, List.forall_mem_cons.mpr ⟨gl_fn X T.g k.g_reader, List.forall_mem_cons.mpr ⟨gl_fn X T.g k.g_word, List.forall_mem_cons.mpr ⟨gl_fn X T.g k.g_own, List.forall_mem_cons.mpr ⟨gl_fn X T.g k.g_number, List.forall_mem_cons.mpr ⟨gl_fn X T.g k.g_blocks, List.forall_mem_cons.mpr ⟨gl_fn X T.g k.g_text, List.forall_mem_cons.mpr ⟨gl_fn X T.g k.g_round, List.forall_mem_cons.mpr ⟨gl_fn X T.g k.g_last, List.forall_mem_cons.mpr ⟨gl_fn X T.g k.g_ahead, (fun p hp => by cases hp)⟩⟩⟩⟩⟩⟩⟩⟩⟩⟩⟩⟩⟩⟩⟩⟩⟩⟩⟩⟩⟩⟩⟩⟩⟩⟩⟩⟩⟩⟩⟩ }
  cls := k.cls
  ap := ⟨_, fnAt_of_K X k.t_ap k.q_ap⟩
  div2 := ⟨_, fnAt_of_K X k.t_div2 k.q_div2⟩
  i2d := ⟨_, fnAt_of_K X k.t_i2d k.q_i2d, h1⟩
  d2i := ⟨_, fnAt_of_K X k.t_d2i k.q_d2i, h2⟩
  dmp := ⟨_, fnAt_of_K X k.t_dmp k.q_dmp⟩
  idm := ⟨_, fnAt_of_K X k.t_idm k.q_idm⟩
  reader := ⟨_, fnAt_of_K X k.t_reader k.q_reader, h3⟩
  word := ⟨_, fnAt_of_K X k.t_word k.q_word⟩
  own := ⟨_, fnAt_of_K X k.t_own k.q_own⟩
  number := ⟨_, fnAt_of_K X k.t_number k.q_number⟩
  blocks := ⟨_, fnAt_of_K X k.t_blocks k.q_blocks⟩
  text := ⟨_, fnAt_of_K X k.t_text k.q_text⟩
  round := ⟨_, fnAt_of_K X k.t_round k.q_round⟩
  last := ⟨_, fnAt_of_K X k.t_last k.q_last⟩
  ahead := ⟨_, fnAt_of_K X k.t_ahead k.q_ahead⟩
  fInit := ⟨_, fnAt_of_K X k.t_fInit k.q_fInit⟩
  fRead := ⟨_, fnAt_of_K X k.t_fRead k.q_fRead⟩
  fGet := ⟨_, fnAt_of_K X k.t_fGet k.q_fGet⟩
  fPush := ⟨_, fnAt_of_K X k.t_fPush k.q_fPush⟩
theorem law2_code {K : Frag} {a : Ad} {aL fa sl : Addr} {p prog : Program} {loose : List Str} {mean : ExcName → Option Value} {mg mb : Str → Option Value} {w : World} {s₁ : Shared} {its : Array Value} {ns : List Int} {tabs : List (Addr × Addr)} {A : Around}
    (k : KOk3 K a aL) (hT : TabsAt tabs s₁.heap) (KX : K.In s₁.heap) (hn : noTabs K = true) (T : Top p loose mean mg mb s₁.heap) (hg : s₁.gens = #[]) (hmg : mg "law" = some (.ref fa)) (hsl : s₁.heap.IsList sl its) (hns : IntsAre its.toList ns) (hnz : ns.length ≤ 1000) (hr : Room A 41)
    (m1 : (codeAt K a.i2d, a.pI2d) ∈ tabs) (m2 : (codeAt K a.d2i, a.pD2i) ∈ tabs) (m3 : (codeAt K a.reader, a.pReader) ∈ tabs) (nd : a.pI2d ≠ a.pD2i ∧ a.pI2d ≠ a.pReader ∧ a.pD2i ≠ a.pReader) :
    codeAny (model prog w) A (Code.call (Value.ref fa) ⟨[Value.ref sl], []⟩) (fun r s' => r = .ok (.ret (.bool true)) ∧ (∀ b o, (ghostOf s₁.heap tabs).get? b = some o → s'.heap.get? b = some o) ∧ s'.os = s₁.os ∧ s'.gens = #[] ∧ GrownAt a.pI2d s'.heap ∧ GrownAt a.pD2i s'.heap ∧ GrownAt a.pReader s'.heap) s₁ := by
  have X' := ghost_K hT KX hn
  have T' := ghost_top hT T
  have hd : ∀ q ∈ tabs, CodeHd (ghostOf s₁.heap tabs) q.1 q.2 := by
    have C' := ghost_code hT
    have : ∀ (l : List (Addr × Addr)), CodeAll l (ghostOf s₁.heap tabs) → ∀ q ∈ l, CodeHd (ghostOf s₁.heap tabs) q.1 q.2 := by
      intro l
      induction l with
      | nil => intro _ q hq; cases hq
      | cons x l ih =>
        intro h q hq
        rcases List.mem_cons.mp hq with rfl | hq
        · exact h.1
        · exact ih h.2 q hq
    exact this tabs C'
  have W : W3 ⟨prog, w, K, ghostOf s₁.heap tabs, s₁.os, [], mg, mb⟩ a := W3.of_K k X' T' (hd _ m1) (hd _ m2) (hd _ m3)
  have hfa : fa = aL := by
    have := mg_of KX T.g k.g_law
    rw [hmg] at this
    cases this; rfl
  subst hfa
  have hF := fnAt_of_K X' k.t_law k.q_law
  have tabAt : ∀ q ∈ tabs, s₁.heap.get? q.2 = some (tabObj #[]) ∧ (ghostOf s₁.heap tabs).get? q.2 = none := fun q hq => ⟨(hT q hq).2, hideAll_none _ (List.mem_map_of_mem hq)⟩
  have tabRel : ∀ (P : Addr) (qn : Str), s₁.heap.get? P = some (tabObj #[]) → ORel [] s₁.heap P (.tab qn) := fun P qn e => ⟨#[], e, trivial, fun pos c h => by cases h⟩
  have R : Rel ⟨prog, w, K, ghostOf s₁.heap tabs, s₁.os, [], mg, mb⟩ [(a.pReader, .tab "_law_reader.<locals>.<lambda>"), (a.pI2d, .tab "_int2digits.<locals>.inner"), (a.pD2i, .tab "_digits2int.<locals>.inner")] s₁ := {
    keep := fun b o e => of_hideAll _ e
    gens := hg
    os := rfl
    nd := by
      simp only [keys, List.map_cons, List.map_nil, List.nodup_cons, List.mem_cons, List.not_mem_nil, or_false, not_or, not_false_eq_true, List.nodup_nil, and_true]
      exact ⟨⟨fun e => nd.2.1 e.symm, fun e => nd.2.2 e.symm⟩, nd.1⟩
    fresh := by
      intro q hq
      simp only [List.mem_cons, List.not_mem_nil, or_false] at hq
      rcases hq with rfl | rfl | rfl
      · exact (tabAt _ m3).2
      · exact (tabAt _ m1).2
      · exact (tabAt _ m2).2
    objs := by
      intro q hq
      simp only [List.mem_cons, List.not_mem_nil, or_false] at hq
      rcases hq with rfl | rfl | rfl
      · exact tabRel _ _ (tabAt _ m3).1
      · exact tabRel _ _ (tabAt _ m1).1
      · exact tabRel _ _ (tabAt _ m2).1
    xl := fun a ha => by cases ha }
  have hc := sp_law (A := A) (H := [(a.pReader, .tab "_law_reader.<locals>.<lambda>"), (a.pI2d, .tab "_int2digits.<locals>.inner"), (a.pD2i, .tab "_digits2int.<locals>.inner")]) W hr hF (ghost_list hT hsl) hns hnz ⟨.tail _ (.head _), .tail _ (.tail _ (.head _)), .head _⟩ (let ⟨o, e⟩ := Option.isSome_iff_exists.mp k.sys; ⟨o, X' _ o e⟩)
  refine codeAny_mono (hc [.ref sl] s₁ (VsRel.cons (by simp only [VRel]) VsRel.nil) R) ?_
  rintro r s' hr'
  rcases r with e | (_ | _ | _ | v)
  · exact hr'.elim
  · exact hr'.elim
  · exact hr'.elim
  · exact hr'.elim
  · obtain ⟨x, H', ⟨rfl, Tb⟩, rv, R', _⟩ := hr'
    simp only [VRel] at rv
    subst rv
    have grown : ∀ (P : Addr) (qn : Str), (P, AO.tab qn) ∈ H' → GrownAt P s'.heap := fun P qn hm => by
      obtain ⟨ps, e, _⟩ := R'.objs _ hm
      exact ⟨ps, e⟩
    exact ⟨rfl, R'.keep, R'.os, R'.gens, grown _ _ Tb.i2d, grown _ _ Tb.d2i, grown _ _ Tb.rd⟩
end
noncomputable section
noncomputable def ad3 : Ad := { ap := 105, div2 := 63, i2d := 77, d2i := 84, dmp := 91, idm := 98, cls := 52, fInit := 28, fRead := 35, fGet := 42, fPush := 49, reader := 137, word := 110, own := 115, number := 120, blocks := 125, text := 130, round := 144, last := 149, ahead := 156, pI2d := 72, pD2i := 79, pReader := 132 }
noncomputable abbrev FnT := Option (Str × Arguments × FuncBody × Scope × List (Str × Addr) × Addr × Addr × Value × Value × Value)
noncomputable abbrev Look3 := List FnT × List Addr × List (Option Str) × List (Option (Option Value)) × List (Option Value) × List Bool × Option Int × Option Bool
noncomputable def chk3 (K : Frag) : Look3 := ([fnTup K 105, fnTup K 63, fnTup K 77, fnTup K 84, fnTup K 91, fnTup K 98, fnTup K 137, fnTup K 110, fnTup K 115, fnTup K 120, fnTup K 125, fnTup K 130, fnTup K 144, fnTup K 149, fnTup K 156, fnTup K 28, fnTup K 35, fnTup K 42, fnTup K 49, fnTup K 161], [codeAt K 105, codeAt K 63, codeAt K 77, codeAt K 84, codeAt K 91, codeAt K 98, codeAt K 137, codeAt K 110, codeAt K 115, codeAt K 120, codeAt K 125, codeAt K 130, codeAt K 144, codeAt K 149, codeAt K 156, codeAt K 28, codeAt K 35, codeAt K 42, codeAt K 49, codeAt K 161], [codeQ K 104, codeQ K 62, codeQ K 76, codeQ K 83, codeQ K 90, codeQ K 97, codeQ K 136, codeQ K 109, codeQ K 114, codeQ K 119, codeQ K 124, codeQ K 129, codeQ K 143, codeQ K 148, codeQ K 155, codeQ K 27, codeQ K 34, codeQ K 41, codeQ K 48, codeQ K 160], [nsIn K mainGlobals "int", nsIn K mainGlobals "abs", nsIn K mainGlobals "divmod", nsIn K mainGlobals "len", nsIn K mainGlobals "reversed", nsIn K mainGlobals "range", nsIn K mainGlobals "zip", nsIn K mainGlobals "enumerate", nsIn K mainGlobals "list", nsIn K mainGlobals "chr", nsIn K mainGlobals "ord", nsIn K mainGlobals "iter", nsIn K mainGlobals "sum", nsIn K mainGlobals "min", nsIn K mainGlobals "Int2AP", nsIn K mainGlobals "_div2n1n", nsIn K mainGlobals "_int2digits", nsIn K mainGlobals "_digits2int", nsIn K mainGlobals "_divmod_pos", nsIn K mainGlobals "int_divmod", nsIn K mainGlobals "_netrclex", nsIn K mainGlobals "_law_reader", nsIn K mainGlobals "_law_word", nsIn K mainGlobals "_law_own", nsIn K mainGlobals "_law_number", nsIn K mainGlobals "_law_blocks", nsIn K mainGlobals "_law_text", nsIn K mainGlobals "_law_round", nsIn K mainGlobals "_law_last", nsIn K mainGlobals "_law_ahead", nsIn K mainGlobals "law", findIn K (.ref 52) "__setattr__", findIn K (.ref 52) "__init__", findIn K (.ref 52) "_read_char", specialIn K (.ref 35) "__get__", findIn K (.ref 52) "get_token", findIn K (.ref 52) "push_token", findIn K (.ref 52) "lineno", takerIn K 52 "lineno", findIn K (.ref 52) "instream", takerIn K 52 "instream", findIn K (.ref 52) "whitespace", takerIn K 52 "whitespace", findIn K (.ref 52) "pushback", takerIn K 52 "pushback"], [typeIn K (.ref 28)], [isFn K (.ref 35), isFn K (.ref 42), isFn K (.ref 49), plainGet K 52 "", hasDictIn K 52, plainOver K 52, makesIn K 52, keepIn K (.ref 52), noTabs K, codeHdIn K 83 79, codeHdIn K 136 132, codeHdIn K 76 72, (List.lookup sysModules K).isSome], intIn K "_DIV_LIMIT", takesIn K (.ref 35))
noncomputable def ok3 : Look3 := ([some (F_Int2AP.qual, F_Int2AP.params, F_Int2AP.body, F_Int2AP.scope, F_Int2AP.closure, mainGlobals, builtinsNs, .none, .none, .ref 104), some (F_div2n1n.qual, F_div2n1n.params, F_div2n1n.body, F_div2n1n.scope, F_div2n1n.closure, mainGlobals, builtinsNs, .none, .none, .ref 62), some (F_int2digits.qual, F_int2digits.params, F_int2digits.body, F_int2digits.scope, F_int2digits.closure, mainGlobals, builtinsNs, .none, .none, .ref 76), some (F_digits2int.qual, F_digits2int.params, F_digits2int.body, F_digits2int.scope, F_digits2int.closure, mainGlobals, builtinsNs, .none, .none, .ref 83), some (F_divmod_pos.qual, F_divmod_pos.params, F_divmod_pos.body, F_divmod_pos.scope, F_divmod_pos.closure, mainGlobals, builtinsNs, .none, .none, .ref 90), some (F_int_divmod.qual, F_int_divmod.params, F_int_divmod.body, F_int_divmod.scope, F_int_divmod.closure, mainGlobals, builtinsNs, .none, .none, .ref 97), some (F_reader.qual, F_reader.params, F_reader.body, F_reader.scope, F_reader.closure, mainGlobals, builtinsNs, .none, .none, .ref 136), some (F_word.qual, F_word.params, F_word.body, F_word.scope, F_word.closure, mainGlobals, builtinsNs, .none, .none, .ref 109), some (F_own.qual, F_own.params, F_own.body, F_own.scope, F_own.closure, mainGlobals, builtinsNs, .none, .none, .ref 114), some (F_number.qual, F_number.params, F_number.body, F_number.scope, F_number.closure, mainGlobals, builtinsNs, .none, .none, .ref 119), some (F_blocks.qual, F_blocks.params, F_blocks.body, F_blocks.scope, F_blocks.closure, mainGlobals, builtinsNs, .none, .none, .ref 124), some (F_text.qual, F_text.params, F_text.body, F_text.scope, F_text.closure, mainGlobals, builtinsNs, .none, .none, .ref 129), some (F_round.qual, F_round.params, F_round.body, F_round.scope, F_round.closure, mainGlobals, builtinsNs, .none, .none, .ref 143), some (F_last.qual, F_last.params, F_last.body, F_last.scope, F_last.closure, mainGlobals, builtinsNs, .none, .none, .ref 148), some (F_ahead.qual, F_ahead.params, F_ahead.body, F_ahead.scope, F_ahead.closure, mainGlobals, builtinsNs, .none, .none, .ref 155), some (F_init.qual, F_init.params, F_init.body, F_init.scope, F_init.closure, mainGlobals, builtinsNs, .none, .none, .ref 27), some (F_read.qual, F_read.params, F_read.body, F_read.scope, F_read.closure, mainGlobals, builtinsNs, .none, .none, .ref 34), some (F_get.qual, F_get.params, F_get.body, F_get.scope, F_get.closure, mainGlobals, builtinsNs, .none, .none, .ref 41), some (F_push.qual, F_push.params, F_push.body, F_push.scope, F_push.closure, mainGlobals, builtinsNs, .none, .none, .ref 48), some (F_law.qual, F_law.params, F_law.body, F_law.scope, F_law.closure, mainGlobals, builtinsNs, .none, .none, .ref 160)], [104, 62, 76, 83, 90, 97, 136, 109, 114, 119, 124, 129, 143, 148, 155, 27, 34, 41, 48, 160], [some F_Int2AP.qual, some F_div2n1n.qual, some F_int2digits.qual, some F_digits2int.qual, some F_divmod_pos.qual, some F_int_divmod.qual, some F_reader.qual, some F_word.qual, some F_own.qual, some F_number.qual, some F_blocks.qual, some F_text.qual, some F_round.qual, some F_last.qual, some F_ahead.qual, some F_init.qual, some F_read.qual, some F_get.qual, some F_push.qual, some F_law.qual], [some none, some none, some none, some none, some none, some none, some none, some none, some none, some none, some none, some none, some none, some none, some (some (.ref 105)), some (some (.ref 63)), some (some (.ref 77)), some (some (.ref 84)), some (some (.ref 91)), some (some (.ref 98)), some (some (.ref 52)), some (some (.ref 137)), some (some (.ref 110)), some (some (.ref 115)), some (some (.ref 120)), some (some (.ref 125)), some (some (.ref 130)), some (some (.ref 144)), some (some (.ref 149)), some (some (.ref 156)), some (some (.ref 161)), some (some (.builtin "object.__setattr__")), some (some (.ref 28)), some (some (.ref 35)), some (some (.builtin "function.__get__")), some (some (.ref 42)), some (some (.ref 49)), some none, some none, some none, some none, some none, some none, some none, some none], [some (.type "function")], [true, true, true, true, true, true, true, true, true, true, true, true, true], some 4000, some false)
noncomputable abbrev hook3 : Hook := tHook [1, 2, 3, 15, 17, 18, 20, 22, 24, 25, 27, 28, 29, 31, 32, 34, 35, 36, 38, 39, 41, 42, 43, 45, 46, 48, 49, 50, 51, 52, 53, 54, 55, 56, 57, 59, 60, 62, 63, 64, 66, 67, 69, 70, 71, 73, 74, 76, 77, 78, 80, 81, 83, 84, 85, 87, 88, 90, 91, 92, 94, 95, 97, 98, 99, 101, 102, 104, 105, 106, 109, 110, 111, 114, 115, 116, 119, 120, 121, 124, 125, 126, 129, 130, 131, 133, 134, 136, 137, 138, 140, 141, 143, 144, 145, 148, 149, 150, 152, 153, 155, 156, 157, 160, 161] [79, 132, 72] chk3 ok3
theorem lookT {K : Frag} {fa c : Addr} {q : Str} {p : Arguments} {b : FuncBody} {s : Scope} {cl : List (Str × Addr)} {g n : Addr} {d k : Value} (e : fnTup K fa = some (q, p, b, s, cl, g, n, d, k, .ref c)) (h : codeAt K fa = c) : fnTup K fa = some (q, p, b, s, cl, g, n, d, k, .ref (codeAt K fa)) := h.symm ▸ e
theorem lookQ {K : Frag} {fa c : Addr} {q : Str} (e : codeQ K c = some q) (h : codeAt K fa = c) : codeQ K (codeAt K fa) = some q := h.symm ▸ e
theorem kok3 {K : Frag} (e : chk3 K = ok3) : KOk3 K ad3 161 ∧ noTabs K = true ∧ codeHdIn K 83 79 = true ∧ codeHdIn K 136 132 = true ∧ codeHdIn K 76 72 = true := by
  have e1 := congrArg (·.1) e
  have e2 := congrArg (·.2.1) e
  have e3 := congrArg (·.2.2.1) e
  have e4 := congrArg (·.2.2.2.1) e
  have e5 := congrArg (·.2.2.2.2.1) e
  have e6 := congrArg (·.2.2.2.2.2.1) e
  have e7 := congrArg (·.2.2.2.2.2.2.1) e
  have e8 := congrArg (·.2.2.2.2.2.2.2) e
  have n1 : ∀ i, _ = _ := nth_of e1
  have n2 : ∀ i, _ = _ := nth_of e2
  have n3 : ∀ i, _ = _ := nth_of e3
  have n4 : ∀ i, _ = _ := nth_of e4
  have n5 : ∀ i, _ = _ := nth_of e5
  have n6 : ∀ i, _ = _ := nth_of e6
  exact ⟨{ b_int := (Option.some.inj (n4 0)), b_abs := (Option.some.inj (n4 1)), b_divmod := (Option.some.inj (n4 2)), b_len := (Option.some.inj (n4 3)), b_reversed := (Option.some.inj (n4 4)), b_range := (Option.some.inj (n4 5)), b_zip := (Option.some.inj (n4 6)), b_enumerate := (Option.some.inj (n4 7)), b_list := (Option.some.inj (n4 8)), b_chr := (Option.some.inj (n4 9)), b_ord := (Option.some.inj (n4 10)), b_iter := (Option.some.inj (n4 11)), b_sum := (Option.some.inj (n4 12)), b_min := (Option.some.inj (n4 13)), i_div := e7, g_ap := (Option.some.inj (n4 14)), g_div2 := (Option.some.inj (n4 15)), g_i2d := (Option.some.inj (n4 16)), g_d2i := (Option.some.inj (n4 17)), g_dmp := (Option.some.inj (n4 18)), g_idm := (Option.some.inj (n4 19)), g_cls := (Option.some.inj (n4 20)), g_reader := (Option.some.inj (n4 21)), g_word := (Option.some.inj (n4 22)), g_own := (Option.some.inj (n4 23)), g_number := (Option.some.inj (n4 24)), g_blocks := (Option.some.inj (n4 25)), g_text := (Option.some.inj (n4 26)), g_round := (Option.some.inj (n4 27)), g_last := (Option.some.inj (n4 28)), g_ahead := (Option.some.inj (n4 29)), t_ap := lookT (Option.some.inj (n1 0)) (Option.some.inj (n2 0)), q_ap := lookQ (Option.some.inj (n3 0)) (Option.some.inj (n2 0)), t_div2 := lookT (Option.some.inj (n1 1)) (Option.some.inj (n2 1)), q_div2 := lookQ (Option.some.inj (n3 1)) (Option.some.inj (n2 1)), t_i2d := lookT (Option.some.inj (n1 2)) (Option.some.inj (n2 2)), q_i2d := lookQ (Option.some.inj (n3 2)) (Option.some.inj (n2 2)), t_d2i := lookT (Option.some.inj (n1 3)) (Option.some.inj (n2 3)), q_d2i := lookQ (Option.some.inj (n3 3)) (Option.some.inj (n2 3)), t_dmp := lookT (Option.some.inj (n1 4)) (Option.some.inj (n2 4)), q_dmp := lookQ (Option.some.inj (n3 4)) (Option.some.inj (n2 4)), t_idm := lookT (Option.some.inj (n1 5)) (Option.some.inj (n2 5)), q_idm := lookQ (Option.some.inj (n3 5)) (Option.some.inj (n2 5)), t_reader := lookT (Option.some.inj (n1 6)) (Option.some.inj (n2 6)), q_reader := lookQ (Option.some.inj (n3 6)) (Option.some.inj (n2 6)), t_word := lookT (Option.some.inj (n1 7)) (Option.some.inj (n2 7)), q_word := lookQ (Option.some.inj (n3 7)) (Option.some.inj (n2 7)), t_own := lookT (Option.some.inj (n1 8)) (Option.some.inj (n2 8)), q_own := lookQ (Option.some.inj (n3 8)) (Option.some.inj (n2 8)), t_number := lookT (Option.some.inj (n1 9)) (Option.some.inj (n2 9)), q_number := lookQ (Option.some.inj (n3 9)) (Option.some.inj (n2 9)), t_blocks := lookT (Option.some.inj (n1 10)) (Option.some.inj (n2 10)), q_blocks := lookQ (Option.some.inj (n3 10)) (Option.some.inj (n2 10)), t_text := lookT (Option.some.inj (n1 11)) (Option.some.inj (n2 11)), q_text := lookQ (Option.some.inj (n3 11)) (Option.some.inj (n2 11)), t_round := lookT (Option.some.inj (n1 12)) (Option.some.inj (n2 12)), q_round := lookQ (Option.some.inj (n3 12)) (Option.some.inj (n2 12)), t_last := lookT (Option.some.inj (n1 13)) (Option.some.inj (n2 13)), q_last := lookQ (Option.some.inj (n3 13)) (Option.some.inj (n2 13)), t_ahead := lookT (Option.some.inj (n1 14)) (Option.some.inj (n2 14)), q_ahead := lookQ (Option.some.inj (n3 14)) (Option.some.inj (n2 14)), t_fInit := lookT (Option.some.inj (n1 15)) (Option.some.inj (n2 15)), q_fInit := lookQ (Option.some.inj (n3 15)) (Option.some.inj (n2 15)), t_fRead := lookT (Option.some.inj (n1 16)) (Option.some.inj (n2 16)), q_fRead := lookQ (Option.some.inj (n3 16)) (Option.some.inj (n2 16)), t_fGet := lookT (Option.some.inj (n1 17)) (Option.some.inj (n2 17)), q_fGet := lookQ (Option.some.inj (n3 17)) (Option.some.inj (n2 17)), t_fPush := lookT (Option.some.inj (n1 18)) (Option.some.inj (n2 18)), q_fPush := lookQ (Option.some.inj (n3 18)) (Option.some.inj (n2 18)), t_law := lookT (Option.some.inj (n1 19)) (Option.some.inj (n2 19)), q_law := lookQ (Option.some.inj (n3 19)) (Option.some.inj (n2 19)), g_law := (Option.some.inj (n4 30)), cls := { ok := ⟨(Option.some.inj (n6 3)), (Option.some.inj (n6 4)), (Option.some.inj (n4 31)), (Option.some.inj (n6 5)), (Option.some.inj (n6 6)), (Option.some.inj (n6 7))⟩, init := (Option.some.inj (n4 32)), initT := (Option.some.inj (n5 0)), read := (Option.some.inj (n4 33)), readT := (Option.some.inj (n6 0)), readG := (Option.some.inj (n4 34)), readS := e8, get := (Option.some.inj (n4 35)), getT := (Option.some.inj (n6 1)), push := (Option.some.inj (n4 36)), pushT := (Option.some.inj (n6 2)), at1 := ⟨(Option.some.inj (n4 37)), (Option.some.inj (n4 38))⟩, at2 := ⟨(Option.some.inj (n4 39)), (Option.some.inj (n4 40))⟩, at3 := ⟨(Option.some.inj (n4 41)), (Option.some.inj (n4 42))⟩, at4 := ⟨(Option.some.inj (n4 43)), (Option.some.inj (n4 44))⟩ }, sys := (Option.some.inj (n6 12)) }, (Option.some.inj (n6 8)), (Option.some.inj (n6 9)), (Option.some.inj (n6 10)), (Option.some.inj (n6 11))⟩
theorem codes3 {K : Frag} (e : chk3 K = ok3) : codeAt K ad3.i2d = 76 ∧ codeAt K ad3.d2i = 83 ∧ codeAt K ad3.reader = 136 := by
  have n2 : ∀ i, _ = _ := nth_of (congrArg (·.2.1) e)
  exact ⟨(Option.some.inj (n2 2)), (Option.some.inj (n2 3)), (Option.some.inj (n2 6))⟩
end
theorem mem_code {K : Frag} {fa c P : Addr} {tabs : List (Addr × Addr)} (e : codeAt K fa = c) (h : (c, P) ∈ tabs) : (codeAt K fa, P) ∈ tabs := by rw [e]; exact h
theorem tabs_at {K : Frag} {h : Heap} (X : K.In h) (h1 : codeHdIn K 83 79 = true) (h2 : codeHdIn K 136 132 = true) (h3 : codeHdIn K 76 72 = true) (hT : ∀ P ∈ [79, 132, 72], h.get? P = some (tabObj #[])) : TabsAt ([(83, 79), (136, 132), (76, 72)] : List (Addr × Addr)) h :=
  List.forall_mem_cons.mpr ⟨⟨codeHd_of_K X h1, hT 79 (.head _)⟩, List.forall_mem_cons.mpr ⟨⟨codeHd_of_K X h2, hT 132 (.tail _ (.head _))⟩, List.forall_mem_cons.mpr ⟨⟨codeHd_of_K X h3, hT 72 (.tail _ (.tail _ (.head _)))⟩, fun _ h => nomatch h⟩⟩⟩
noncomputable def view2 : Program := { rw_sw0039_02.prog with main := { rw_sw0039_02.prog.main with body := [1, 3, 4, 5, 6, 7, 8, 9, 11, 13, 14, 15, 16, 17, 18, 19, 20, 21, 22].filterMap fun i => rw_sw0039_02.prog.main.body[i]? } }
noncomputable def xt2 (s : Shared) : Bool := xlAt view2 [] s && recOk (RowW.records (OpenRow.toRowW rw_sw0039_02.row)) s
theorem left2 : LeftO rw_sw0039_02.row.prog view2 [] xt2 (Hook.obs hook3) (Hook.val hook3) 1914 := fun w => by kernel_rfl
theorem said2 : rw_sw0039_02.wellSaid = true := by kernel_rfl
end Mine
open PySem.Challenge Mine
theorem PySem.Challenge.cw_sw0039_02_holds : PySem.Challenge.rw_sw0039_02.Holds := by
  w_on
  refine holds_law said2 fun said => ?_
  refine holds_open (q := view2) (loose := []) (Xt := xt2) (XP := XL view2 []) (Yf := Hook.obs hook3) (Ya := Hook.val hook3) (YP := Hook.says hook3) (N := 1914) left2 (Hook.of hook3) (Hook.keeps hook3) (fun s e => xl_of s (Bool.and_eq_true_iff.mp e).1) XL.keeps (by rfl) (by rfl) (by rfl) (fun s e => recFacts_of (Bool.and_eq_true_iff.mp e).2) (by rfl) said (by decide +kernel) ⟨rfl, rfl, rfl, rfl, rfl, by decide +kernel⟩ ?hw ?hc
  (case hw => w_witness2)
  w_strict (
    intro w s₀ s₁ mg mb G Y fa o pm cd doc dV kV ho hd hcd hD hmg hg args vals as hpre hlay hrd hwl hlo
    obtain ⟨⟨K, KX, kk⟩, hT8⟩ := Y
    obtain ⟨kok, hn, hc1, hc2, hc3⟩ := kok3 kk
    refine Ground.open G ?_
    intro T B D TE TW
    try (refine guard_noD D (by decide +kernel) ?_; clear D)
    have hT9 := tabs_at KX hc1 hc2 hc3 hT8
    wrow_args hpre hlay hrd hwl hlo
    first | refine callC_kw (enter_call ?_) | refine enter_call ?_
    w_top on
    kn_posts
    rename Heap.IsList _ _ _ => hsl
    rename IntsAre _ _ => hns
    refine codeAny_mono (law2_code kok hT9 KX hn T hg hmg hsl hns ?kz ⟨rfl, by decide, by decide⟩ ?m1 ?m2 ?m3 (by decide)) ?kp
    case kz => omega
    case m1 => exact mem_code (c := 76) (codes3 kk).1 (by decide)
    case m2 => exact mem_code (c := 83) (codes3 kk).2.1 (by decide)
    case m3 => exact mem_code (c := 136) (codes3 kk).2.2 (by decide)
    case kp =>
      rintro r s' ⟨rfl, h1, h2, h3, h4, h5, h6⟩
      exact ⟨⟨.inl ⟨.bool true, .bool true, [], rfl, fun _ => rfl, .bool true, by kernel_rfl, fun _ => ⟨List.nodup_nil, fun a ha => by cases ha⟩⟩, h1, h2, h3⟩, h5, h6, h4, trivial⟩)
