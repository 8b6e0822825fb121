import PyProof.Rows.All
import Wide.All
import OpenK.AllK
import Wide.FinOn
import PySem.Challenge.RW_dm0063_09
open PySem PySem.W PyProof.Rows PySem.Calls
set_option Elab.async false
set_option maxRecDepth 100000
set_option maxHeartbeats 8000000
section
namespace Mine
set_option genSizeOf false in
set_option genInjectivity false in
/-- plain values -/
inductive PV where
  | none
  | bool (b : Bool)
  | int (i : Int)
  | str (x : Str)
  | ref (a : Addr)
  | tup (xs : List PV)
  | lst (xs : List PV)
  | rng (a b c : Int)
  | obj (C : Addr) (fs : List (String × PV))
  | raw (v : Value)
abbrev Zm := Addr → Option Obj
set_option genSizeOf false in
set_option genInjectivity false in
mutual
inductive VR (Z : Zm) : PV → Value → Prop
  | none : VR Z .none .none
  | bool (b : Bool) : VR Z (.bool b) (.bool b)
  | int (i : Int) (t : Tok) : VR Z (.int i) (.int i t)
  | str (x : Str) (t : Tok) : VR Z (.str x) (.str x t)
  | ref (a : Addr) : VR Z (.ref a) (.ref a)
  | raw (v : Value) : VR Z (.raw v) v
  | tup {a : Addr} {vs : List Value} {n : Nat} {xs : List PV} : Z a = some { cls := .type "tuple", data := .seq vs.toArray n } → VRs Z xs vs → VR Z (.tup xs) (.ref a)
  | lst {a : Addr} {vs : List Value} {n : Nat} {xs : List PV} : Z a = some { cls := .type "list", data := .seq vs.toArray n } → VRs Z xs vs → VR Z (.lst xs) (.ref a)
  | rng {r : Addr} {a b c : Int} {t u v : Tok} : Z r = some { cls := .type "range", dict := Option.none, data := .fields #[.int a t, .int b u, .int c v], slots := #[] } → VR Z (.rng a b c) (.ref r)
  | obj {x C dx : Addr} {es : List DictEntry} {n : Nat} {fs : List (String × PV)} : Z x = some (instObj C dx) → Z dx = some (dictOf es n) → FRs Z fs es → VR Z (.obj C fs) (.ref x)
inductive VRs (Z : Zm) : List PV → List Value → Prop
  | nil : VRs Z [] []
  | cons {x : PV} {v : Value} {xs : List PV} {vs : List Value} : VR Z x v → VRs Z xs vs → VRs Z (x :: xs) (v :: vs)
inductive FRs (Z : Zm) : List (String × PV) → List DictEntry → Prop
  | nil : FRs Z [] []
  | cons {f : String} {x : PV} {hs : Int} {t : Tok} {v : Value} {fs : List (String × PV)} {es : List DictEntry} : VR Z x v → handedIn v = true → FRs Z fs es → FRs Z ((f, x) :: fs) (⟨hs, .str (Str.ofString f) t, v⟩ :: es)
end

def Zle (Z Z' : Zm) : Prop := ∀ a o, Z a = some o → Z' a = some o
theorem Zle.refl (Z : Zm) : Zle Z Z := fun _ _ e => e
theorem Zle.trans {Z₁ Z₂ Z₃ : Zm} (h : Zle Z₁ Z₂) (k : Zle Z₂ Z₃) : Zle Z₁ Z₃ := fun a o e => k a o (h a o e)
mutual
theorem VR.mono {Z Z' : Zm} (h : Zle Z Z') : ∀ {x : PV} {v : Value}, VR Z x v → VR Z' x v
  | _, _, .none => .none
  | _, _, .bool b => .bool b
  | _, _, .int i t => .int i t
  | _, _, .str x t => .str x t
  | _, _, .ref a => .ref a
  | _, _, .raw v => .raw v
  | _, _, .tup e r => .tup (h _ _ e) (VRs.mono h r)
  | _, _, .lst e r => .lst (h _ _ e) (VRs.mono h r)
  | _, _, .rng e => .rng (h _ _ e)
  | _, _, .obj e d r => .obj (h _ _ e) (h _ _ d) (FRs.mono h r)
theorem VRs.mono {Z Z' : Zm} (h : Zle Z Z') : ∀ {x : List PV} {v : List Value}, VRs Z x v → VRs Z' x v
  | _, _, .nil => .nil
  | _, _, .cons e r => .cons (VR.mono h e) (VRs.mono h r)
theorem FRs.mono {Z Z' : Zm} (h : Zle Z Z') : ∀ {x : List (String × PV)} {v : List DictEntry}, FRs Z x v → FRs Z' x v
  | _, _, .nil => .nil
  | _, _, .cons e k r => .cons (VR.mono h e) k (FRs.mono h r)
end

section
variable {Z : Zm}
theorem VRs.length {xs : List PV} {vs : List Value} (h : VRs Z xs vs) : vs.length = xs.length := by
  induction xs generalizing vs with
  | nil => cases h; rfl
  | cons x xs ih => cases h with | cons _ r => rw [List.length_cons, List.length_cons, ih r]
theorem VRs.append {xs ys : List PV} {vs ws : List Value} (h : VRs Z xs vs) (k : VRs Z ys ws) : VRs Z (xs ++ ys) (vs ++ ws) := by
  induction xs generalizing vs with
  | nil => cases h; exact k
  | cons x xs ih => cases h with | cons a r => exact .cons a (ih r)
theorem VRs.get {xs : List PV} {vs : List Value} (h : VRs Z xs vs) {i : Nat} {x : PV} (hx : xs[i]? = some x) : ∃ v, vs[i]? = some v ∧ VR Z x v := by
  induction xs generalizing vs i with
  | nil => cases hx
  | cons y xs ih =>
    cases h with
    | cons a r =>
      cases i with
      | zero => cases hx; exact ⟨_, rfl, a⟩
      | succ i => exact ih r hx
theorem VRs.get' {xs : List PV} {vs : List Value} (h : VRs Z xs vs) {i : Nat} {v : Value} (hv : vs[i]? = some v) : ∃ x, xs[i]? = some x ∧ VR Z x v := by
  induction xs generalizing vs i with
  | nil => cases h; cases hv
  | cons y xs ih =>
    cases h with
    | cons a r =>
      cases i with
      | zero => cases hv; exact ⟨_, rfl, a⟩
      | succ i => exact ih r hv
theorem VRs.take {xs : List PV} {vs : List Value} (h : VRs Z xs vs) (i : Nat) : VRs Z (xs.take i) (vs.take i) := by
  induction xs generalizing vs i with
  | nil => cases h; simpa using VRs.nil
  | cons y xs ih =>
    cases h with
    | cons a r =>
      cases i with
      | zero => exact .nil
      | succ i => exact .cons a (ih r i)
theorem VRs.drop {xs : List PV} {vs : List Value} (h : VRs Z xs vs) (i : Nat) : VRs Z (xs.drop i) (vs.drop i) := by
  induction xs generalizing vs i with
  | nil => cases h; simpa using VRs.nil
  | cons y xs ih =>
    cases h with
    | cons a r =>
      cases i with
      | zero => exact .cons a r
      | succ i => exact ih r i
end
set_option genSizeOf false in
set_option genInjectivity false in
/-- a list that is kept by its address: may it be changed, and its items -/
structure LO where
  mu : Bool
  xs : List PV
abbrev LH := Addr → Option LO
abbrev Loc := String → Option PV
def LH.set (H : LH) (a : Addr) (l : LO) : LH := fun b => if b = a then some l else H b
def LH.ro (H : LH) : LH := fun b => (H b).map fun l => ⟨false, l.xs⟩
def Loc.set (l : Loc) (x : String) (v : PV) : Loc := fun y => if y = x then some v else l y
set_option genSizeOf false in
set_option genInjectivity false in
structure St where
  loc : Loc
  H : LH
set_option genSizeOf false in
set_option genInjectivity false in
/-- a name of a frame's holds v -/
inductive Holds1 (Z : Zm) (env : Env) (m : Str → Option Value) (h : Heap) (x : String) (p : PV) : Prop
  | loc (v : Value) : env.kindOf (Str.ofString x) = some .local → m (Str.ofString x) = some v → VR Z p v → Holds1 Z env m h x p
  | cell (c : Addr) (v : Value) : (env.kindOf (Str.ofString x) = some .cell ∨ env.kindOf (Str.ofString x) = some .free) → env.cells.lookup (Str.ofString x) = some c → h.IsCell c (some v) → VR Z p v → Holds1 Z env m h x p
set_option genSizeOf false in
set_option genInjectivity false in
/-- the heap bears the plain state -/
structure Sat (h₀ : Heap) (Z : Zm) (env : Env) (loc : Loc) (H : LH) (h : Heap) : Prop where
  base : ∀ a o, h₀.get? a = some o → Z a = some o
  frz : ∀ a o, Z a = some o → h.get? a = some o
  nsZ : Z env.locals = Option.none
  cellZ : ∀ n c, (n, c) ∈ env.cells → Z c = Option.none ∧ (∃ w, h.IsCell c w)
  cellN : (env.cells.map (·.2)).Nodup
  kind : env.scope.kind = .function
  ns : ∃ m, h.Ns env.locals m ∧ ∀ x p, loc x = some p → Holds1 Z env m h x p
  obj : ∀ a l, H a = some l → Z a = Option.none ∧ ∃ vs n, h.get? a = some { cls := .type "list", data := .seq vs.toArray n } ∧ VRs Z l.xs vs
/-- new ones are fresh -/
def Fresh (s : Shared) (Z Z' : Zm) : Prop := Zle Z Z' ∧ ∀ a, Z a = Option.none → Z' a ≠ Option.none → s.heap.get? a = Option.none
def FreshH (s : Shared) (H H' : LH) : Prop := (∀ a l, H a = some l → H' a = some l) ∧ ∀ a, H a = Option.none → H' a ≠ Option.none → s.heap.get? a = Option.none
end Mine
end
section
namespace Mine
def Zm.set (Z : Zm) (a : Addr) (o : Obj) : Zm := fun b => if b = a then some o else Z b
theorem Zm.set_self (Z : Zm) (a : Addr) (o : Obj) : Z.set a o a = some o := by simp [Zm.set]
theorem Zm.le_set {Z : Zm} {a : Addr} (o : Obj) (h : Z a = none) : Zle Z (Z.set a o) := fun b o' e => by
  unfold Zm.set
  by_cases hb : b = a
  · subst hb; rw [h] at e; cases e
  · rw [if_neg hb]; exact e
theorem LH.set_self (H : LH) (a : Addr) (l : LO) : H.set a l a = some l := by simp [LH.set]
theorem LH.set_ne (H : LH) {a b : Addr} (l : LO) (h : b ≠ a) : H.set a l b = H b := by simp [LH.set, h]
theorem Loc.set_self (l : Loc) (x : String) (v : PV) : l.set x v x = some v := by simp [Loc.set]
theorem Loc.set_ne (l : Loc) {x y : String} (v : PV) (h : y ≠ x) : l.set x v y = l y := by simp [Loc.set, h]
def Kp (s s' : Shared) : Prop := ∃ h' tk, s' = { s with heap := h', toks := tk } ∧ ∀ b o, s.heap.get? b = some o → h'.get? b = some o
theorem Kp.refl (s : Shared) : Kp s s := ⟨s.heap, s.toks, rfl, fun _ _ e => e⟩
theorem Kp.toks (s : Shared) (tk : Nat) : Kp s { s with toks := tk } := ⟨s.heap, tk, rfl, fun _ _ e => e⟩
theorem Kp.trans {s₁ s₂ s₃ : Shared} (a : Kp s₁ s₂) (b : Kp s₂ s₃) : Kp s₁ s₃ := by
  obtain ⟨h, t, rfl, k⟩ := a
  obtain ⟨h', t', rfl, k'⟩ := b
  exact ⟨h', t', rfl, fun b o e => k' b o (k b o e)⟩
theorem Kp.get {s s' : Shared} (a : Kp s s') {b : Addr} {o : Obj} (e : s.heap.get? b = some o) : s'.heap.get? b = some o := by
  obtain ⟨h, t, rfl, k⟩ := a; exact k b o e
theorem Kp.none {s s' : Shared} (a : Kp s s') {b : Addr} (e : s'.heap.get? b = Option.none) : s.heap.get? b = Option.none := by
  cases q : s.heap.get? b with
  | none => rfl
  | some o => rw [a.get q] at e; cases e
theorem Fresh.refl (s : Shared) (Z : Zm) : Fresh s Z Z := ⟨Zle.refl Z, fun _ h k => absurd h k⟩
theorem FreshH.refl (s : Shared) (H : LH) : FreshH s H H := ⟨fun _ _ e => e, fun _ h k => absurd h k⟩
theorem Fresh.trans {s s₁ : Shared} {Z Z₁ Z₂ : Zm} (a : Fresh s Z Z₁) (b : Fresh s₁ Z₁ Z₂) (k : Kp s s₁) : Fresh s Z Z₂ :=
  ⟨a.1.trans b.1, fun x h h' => by
    cases q : Z₁ x with
    | none => exact k.none (b.2 x q h')
    | some o => exact a.2 x h (by rw [q]; exact Option.some_ne_none o)⟩
theorem FreshH.trans {s s₁ : Shared} {H H₁ H₂ : LH} (a : FreshH s H H₁) (b : FreshH s₁ H₁ H₂) (k : Kp s s₁) : FreshH s H H₂ :=
  ⟨fun x l e => b.1 x l (a.1 x l e), fun x h h' => by
    cases q : H₁ x with
    | none => exact k.none (b.2 x q h')
    | some o => exact a.2 x h (by rw [q]; exact Option.some_ne_none o)⟩
section
variable {h₀ : Heap} {Z Z' : Zm} {env : Env} {loc : Loc} {H H' : LH} {h h' : Heap}
theorem Holds1.keeps {m : Str → Option Value} {x : String} {p : PV} (a : Holds1 Z env m h x p) (z : Zle Z Z') (k : ∀ b o, h.get? b = some o → h'.get? b = some o) : Holds1 Z' env m h' x p := by
  cases a with
  | loc v a b c => exact .loc v a b (c.mono z)
  | cell c v a b d e => exact .cell c v a b (d.keeps k) (e.mono z)
/-- a heap that keeps all -/
theorem Sat.keeps (S : Sat h₀ Z env loc H h) (k : ∀ b o, h.get? b = some o → h'.get? b = some o) : Sat h₀ Z env loc H h' where
  base := S.base
  frz := fun a o e => k a o (S.frz a o e)
  nsZ := S.nsZ
  cellZ := fun n c hm => ⟨(S.cellZ n c hm).1, let ⟨w, x⟩ := (S.cellZ n c hm).2; ⟨w, x.keeps k⟩⟩
  cellN := S.cellN
  kind := S.kind
  ns := let ⟨m, a, b⟩ := S.ns; ⟨m, a.at' fun o e => k _ o e, fun x p e => (b x p e).keeps (Zle.refl Z) k⟩
  obj := fun a l e => let ⟨z, vs, n, q, r⟩ := S.obj a l e; ⟨z, vs, n, k _ _ q, r⟩
/-- a frozen one more -/
theorem Sat.freeze (S : Sat h₀ Z env loc H h) (z : Zle Z Z') (hz : ∀ a o, Z' a = some o → h.get? a = some o) (hL : Z' env.locals = none) (hc : ∀ n c, (n, c) ∈ env.cells → Z' c = none) (hH : ∀ a l, H a = some l → Z' a = none) : Sat h₀ Z' env loc H h where
  base := fun a o e => z a o (S.base a o e)
  frz := hz
  nsZ := hL
  cellZ := fun n c hm => ⟨hc n c hm, (S.cellZ n c hm).2⟩
  cellN := S.cellN
  kind := S.kind
  ns := let ⟨m, a, b⟩ := S.ns; ⟨m, a, fun x p e => (b x p e).keeps z fun _ _ e => e⟩
  obj := fun a l e => let ⟨_, vs, n, q, r⟩ := S.obj a l e; ⟨hH a l e, vs, n, q, r.mono z⟩
theorem Sat.nsAt (S : Sat h₀ Z env loc H h) : ∃ o, h.get? env.locals = some o := let ⟨_, a, _⟩ := S.ns; let ⟨o, _, _, e, _⟩ := a; ⟨o, e⟩
theorem Sat.freeze1 {a : Addr} {o : Obj} (S : Sat h₀ Z env loc H h) (hk : ∀ b o, h.get? b = some o → h'.get? b = some o) (ha : h.get? a = none) (ho : h'.get? a = some o) : Sat h₀ (Z.set a o) env loc H h' := by
  have hZ : Z a = none := by
    cases q : Z a with
    | none => rfl
    | some o => have := S.frz a o q; rw [ha] at this; cases this
  have ne : ∀ b o', h.get? b = some o' → b ≠ a := fun b o' e q => by rw [q, ha] at e; cases e
  refine (S.keeps hk).freeze (Zm.le_set o hZ) ?_ ?_ ?_ ?_
  · intro b o' e
    unfold Zm.set at e
    by_cases hb : b = a
    · rw [if_pos hb] at e; cases e; rw [hb]; exact ho
    · rw [if_neg hb] at e; exact hk _ _ (S.frz _ _ e)
  · obtain ⟨oL, e⟩ := S.nsAt
    unfold Zm.set; rw [if_neg (ne _ _ e)]; exact S.nsZ
  · intro n c hm
    obtain ⟨z, w, oc, e, _⟩ := S.cellZ n c hm
    unfold Zm.set; rw [if_neg (ne _ _ e)]; exact z
  · intro b l hb
    obtain ⟨z, vs, n, e, _⟩ := S.obj b l hb
    unfold Zm.set; rw [if_neg (ne _ _ e)]; exact z
theorem Sat.newList {a : Addr} {vs : List Value} {n : Nat} {l : LO} (S : Sat h₀ Z env loc H h) (hk : ∀ b o, h.get? b = some o → h'.get? b = some o) (ha : h.get? a = none) (ho : h'.get? a = some { cls := .type "list", data := .seq vs.toArray n }) (hv : VRs Z l.xs vs) : Sat h₀ Z env loc (H.set a l) h' where
  base := S.base
  frz := fun a o e => hk a o (S.frz a o e)
  nsZ := S.nsZ
  cellZ := (S.keeps hk).cellZ
  cellN := S.cellN
  kind := S.kind
  ns := (S.keeps hk).ns
  obj := fun b l' e => by
    by_cases hb : b = a
    · subst hb
      rw [LH.set_self] at e; cases e
      refine ⟨?_, vs, n, ho, hv⟩
      cases q : Z b with
      | none => rfl
      | some o => have := S.frz b o q; rw [ha] at this; cases this
    · rw [LH.set_ne _ _ hb] at e
      exact (S.keeps hk).obj b l' e
end
/-- what a pure expression leaves -/
structure Ke (h₀ : Heap) (env : Env) (loc : Loc) (Z : Zm) (H : LH) (s : Shared) (Z' : Zm) (H' : LH) (s' : Shared) : Prop where
  sat : Sat h₀ Z' env loc H' s'.heap
  kp : Kp s s'
  fz : Fresh s Z Z'
  fh : FreshH s H H'
section
variable {h₀ : Heap} {env : Env} {loc : Loc} {Z Z' Z₁ Z₂ : Zm} {H H' H₁ H₂ : LH} {s s' s₁ s₂ : Shared}
theorem Ke.refl (S : Sat h₀ Z env loc H s.heap) : Ke h₀ env loc Z H s Z H s := ⟨S, Kp.refl s, Fresh.refl s Z, FreshH.refl s H⟩
theorem Ke.toks (S : Sat h₀ Z env loc H s.heap) (tk : Nat) : Ke h₀ env loc Z H s Z H { s with toks := tk } := ⟨S, Kp.toks s tk, Fresh.refl s Z, FreshH.refl s H⟩
theorem Ke.keep (S : Sat h₀ Z env loc H s.heap) (k : Kp s s') : Ke h₀ env loc Z H s Z H s' := ⟨S.keeps fun _ _ e => k.get e, k, Fresh.refl s Z, FreshH.refl s H⟩
theorem Ke.trans (a : Ke h₀ env loc Z H s Z₁ H₁ s₁) (b : Ke h₀ env loc Z₁ H₁ s₁ Z₂ H₂ s₂) : Ke h₀ env loc Z H s Z₂ H₂ s₂ := ⟨b.sat, a.kp.trans b.kp, a.fz.trans b.fz a.kp, a.fh.trans b.fh a.kp⟩
theorem Ke.frozen {a : Addr} {o : Obj} (S : Sat h₀ Z env loc H s.heap) (k : Kp s s') (ha : s.heap.get? a = none) (ho : s'.heap.get? a = some o) : Ke h₀ env loc Z H s (Z.set a o) H s' := by
  have hZ : Z a = none := by
    cases q : Z a with
    | none => rfl
    | some o => have := S.frz a o q; rw [ha] at this; cases this
  refine ⟨S.freeze1 (fun _ _ e => k.get e) ha ho, k, ⟨Zm.le_set o hZ, fun b h h' => ?_⟩, FreshH.refl s H⟩
  by_cases hb : b = a
  · rw [hb]; exact ha
  · unfold Zm.set at h'; rw [if_neg hb] at h'; exact absurd h h'
theorem Ke.newList {a : Addr} {vs : List Value} {n : Nat} {l : LO} (S : Sat h₀ Z env loc H s.heap) (k : Kp s s') (ha : s.heap.get? a = none) (ho : s'.heap.get? a = some { cls := .type "list", data := .seq vs.toArray n }) (hv : VRs Z l.xs vs) :
    Ke h₀ env loc Z H s Z (H.set a l) s' ∧ H a = none := by
  have hH : H a = none := by
    cases q : H a with
    | none => rfl
    | some o => obtain ⟨_, _, _, e, _⟩ := S.obj a o q; rw [ha] at e; cases e
  refine ⟨⟨S.newList (fun _ _ e => k.get e) ha ho hv, k, Fresh.refl s Z, ?_, fun b h h' => ?_⟩, hH⟩
  · intro b l' e
    by_cases hb : b = a
    · subst hb; rw [hH] at e; cases e
    · rw [LH.set_ne _ _ hb]; exact e
  · by_cases hb : b = a
    · rw [hb]; exact ha
    · rw [LH.set_ne _ _ hb] at h'; exact absurd h h'
end
theorem get_size (h : Heap) : h.get? h.objs.size = none := by
  cases q : h.get? h.objs.size with
  | none => rfl
  | some o => exact absurd (Heap.lt_size q) (Nat.lt_irrefl _)
theorem Kp.push (s : Shared) (o : Obj) : Kp s { s with heap := s.heap.push o } := ⟨_, s.toks, rfl, fun _ _ e => Heap.get?_push_of_some _ e⟩
/-- room for n calls within each other -/
structure Rm (n : Nat) (A : Around) : Prop where
  hd : A.handled = none
  dp : A.depth + n < recursionLimit
  un : A.units + 80 + 8 * n < cLine
theorem Rm.le {n k : Nat} {A : Around} (r : Rm n A) (h : k ≤ n) : Rm k A := ⟨r.hd, by have := r.dp; omega, by have := r.un; omega⟩
theorem Rm.deeper {n : Nat} {A : Around} (r : Rm (n + 1) A) (env : Env) : Rm n (A.deeper env) := ⟨r.hd, by have := r.dp; show A.depth + 1 + n < _; omega, by have := r.un; show A.units + 3 + 80 + 8 * n < _; omega⟩
abbrev ET := St → (PV → LH → Prop) → Prop
abbrev BT := St → (Bool → LH → Prop) → Prop
section
variable (h₀ : Heap) (prog : Program) (w : World)
/-- the expression, as a transformer of plain states -/
def EvOk (n : Nat) (env : Env) (e : Expr) (F : ET) : Prop :=
  ∀ (A : Around) (Z : Zm) (loc : Loc) (H : LH) (s : Shared) (Q : PV → LH → Prop) (Q' : Value → Shared → Prop) (E : Value → Shared → Prop),
    Rm n A → Sat h₀ Z env loc H s.heap → F ⟨loc, H⟩ Q →
    (∀ v p Z' H' s', Ke h₀ env loc Z H s Z' H' s' → VR Z' p v → Q p H' → Q' v s') → wpAny (model prog w) A (eval e env) Q' E s
/-- a test -/
def BtOk (n : Nat) (env : Env) (e : Expr) (F : BT) : Prop :=
  ∀ (A : Around) (Z : Zm) (loc : Loc) (H : LH) (s : Shared) (Q : Bool → LH → Prop) (Q' : Bool → Shared → Prop) (E : Value → Shared → Prop),
    Rm n A → Sat h₀ Z env loc H s.heap → F ⟨loc, H⟩ Q →
    (∀ b Z' H' s', Ke h₀ env loc Z H s Z' H' s' → Q b H' → Q' b s') → wpAny (model prog w) A (isTrue e env (eval e env)) Q' E s
/-- an operation on values -/
def OpOk (n : Nat) (env : Env) (loc : Loc) (Z : Zm) (H : LH) (s : Shared) (t : Sem Value) (W : (PV → LH → Prop) → Prop) : Prop :=
  ∀ (A : Around) (Q : PV → LH → Prop) (Q' : Value → Shared → Prop) (E : Value → Shared → Prop), Rm n A → W Q →
    (∀ v p Z' H' s', Ke h₀ env loc Z H s Z' H' s' → VR Z' p v → Q p H' → Q' v s') → wpAny (model prog w) A t Q' E s
end
end Mine
end
section
namespace Mine
def getW (o : Option PV) (k : PV → Prop) : Prop := ∃ v, o = some v ∧ k v
theorem getW_some (v : PV) (k : PV → Prop) : getW (some v) k = k v := by simp [getW]
section
variable {h₀ : Heap} {prog : Program} {w : World} {n : Nat} {env : Env}
theorem ev_int (i : Int) (k : Nat) (pos : Pos) : EvOk h₀ prog w n env (.Constant (.int i) k pos) (fun σ Q => Q (.int i) σ.H) :=
  fun _ _ _ _ _ _ _ _ _ S f q => wpAny_Constant_int (q _ _ _ _ _ (Ke.toks S _) (.int _ _) f)
theorem ev_str (x : Str) (k : Nat) (pos : Pos) : EvOk h₀ prog w n env (.Constant (.str x) k pos) (fun σ Q => Q (.str x) σ.H) :=
  fun _ _ _ _ _ _ _ _ _ S f q => wpAny_Constant_str (q _ _ _ _ _ (Ke.toks S _) (.str _ _) f)
theorem load_ok {A : Around} {Z : Zm} {loc : Loc} {H : LH} {s : Shared} {x : String} {p : PV} {Q' : Value → Shared → Prop} {E : Value → Shared → Prop} (S : Sat h₀ Z env loc H s.heap) (e : loc x = some p)
    (q : ∀ v, VR Z p v → Q' v s) (hn : (Str.ofString x == ("__classdict__" : Str)) = false) : wpAny (model prog w) A (loadName env (Str.ofString x)) Q' E s := by
  obtain ⟨m, hm, hl⟩ := S.ns
  cases hl x p e with
  | loc v a b c => exact wpAny_loadName_local S.kind a hm b (q v c)
  | cell c v a b d e =>
    rcases a with a | a
    · exact wpAny_loadName_cell S.kind a b d (q v e)
    · exact wpAny_loadName_free S.kind a b d (q v e) hn
theorem ev_name (x : String) (pos : Pos) (hd : (Str.ofString x == ("__debug__" : Str)) = false) (hn : (Str.ofString x == ("__classdict__" : Str)) = false) :
    EvOk h₀ prog w n env (.Name (Str.ofString x) pos) (fun σ Q => getW (σ.loc x) fun v => Q v σ.H) := by
  intro A Z loc H s Q Q' E r S f q
  obtain ⟨p, e, f⟩ := f
  exact wpAny_Name (load_ok S e (fun v hv => q _ _ _ _ _ (Ke.refl S) hv f) hn) hd
theorem ev_bin {l r : Expr} {op : Operator} {pos : Pos} {fl fr : ET} {W : PV → PV → LH → (PV → LH → Prop) → Prop} (hl : EvOk h₀ prog w n env l fl) (hr : EvOk h₀ prog w n env r fr)
    (hop : ∀ loc Z H s a b x y, Sat h₀ Z env loc H s.heap → VR Z a x → VR Z b y → OpOk h₀ prog w n env loc Z H s (binaryOp op x y) (W a b H)) :
    EvOk h₀ prog w n env (.BinOp l op r pos) (fun σ Q => fl σ fun a H₁ => fr ⟨σ.loc, H₁⟩ fun b H₂ => W a b H₂ Q) := by
  intro A Z loc H s Q Q' E rm S f q
  refine wpAny_BinOp (hl A Z loc H s _ _ _ rm S f fun x a Z₁ H₁ s₁ k₁ va f₁ => ?_)
  refine hr A Z₁ loc H₁ s₁ _ _ _ rm k₁.sat f₁ fun y b Z₂ H₂ s₂ k₂ vb f₂ => ?_
  exact hop loc Z₂ H₂ s₂ a b x y k₂.sat (va.mono k₂.fz.1) vb A Q _ _ rm f₂ fun v p Z₃ H₃ s₃ k₃ vv f₃ => q _ _ _ _ _ (k₁.trans (k₂.trans k₃)) vv f₃
/-- a value that is made without touching the heap -/
theorem op_val {A : Around} {loc : Loc} {Z : Zm} {H : LH} {s : Shared} {t : Sem Value} {p : PV} {Q : PV → LH → Prop} {Q' : Value → Shared → Prop} {E : Value → Shared → Prop} (S : Sat h₀ Z env loc H s.heap) (f : Q p H)
    (q : ∀ v p Z' H' s', Ke h₀ env loc Z H s Z' H' s' → VR Z' p v → Q p H' → Q' v s')
    (h : (∀ v tk, VR Z p v → Q' v { s with toks := tk }) → wpAny (model prog w) A t Q' E s) : wpAny (model prog w) A t Q' E s :=
  h fun v tk hv => q _ _ _ _ _ (Ke.toks S tk) hv f
end
def listW (xs : List PV) (H : LH) (Q : PV → LH → Prop) : Prop := Q (.lst xs) H ∨ ∀ a, H a = none → Q (.ref a) (H.set a ⟨true, xs⟩)
theorem listW_lst {xs : List PV} {H : LH} {Q : PV → LH → Prop} (h : Q (.lst xs) H) : listW xs H Q := .inl h
theorem listW_ref {xs : List PV} {H : LH} {Q : PV → LH → Prop} (h : ∀ a, H a = none → Q (.ref a) (H.set a ⟨true, xs⟩)) : listW xs H Q := .inr h
section
variable {h₀ : Heap} {prog : Program} {w : World} {n : Nat} {env : Env}
/-- a new list, kept by its value or by its address -/
theorem list_new {loc : Loc} {Z : Zm} {H : LH} {s s' : Shared} {a : Addr} {vs : List Value} {k : Nat} {xs : List PV} {Q : PV → LH → Prop} {Q' : Value → Shared → Prop} (S : Sat h₀ Z env loc H s.heap) (f : listW xs H Q)
    (q : ∀ v p Z' H' s', Ke h₀ env loc Z H s Z' H' s' → VR Z' p v → Q p H' → Q' v s') (hk : Kp s s') (ha : s.heap.get? a = none) (ho : s'.heap.get? a = some { cls := .type "list", data := .seq vs.toArray k }) (hv : VRs Z xs vs) : Q' (.ref a) s' := by
  rcases f with f | f
  · have K := Ke.frozen S hk ha ho
    exact q _ _ _ _ _ K (.lst (Zm.set_self _ _ _) (hv.mono K.fz.1)) f
  · obtain ⟨K, hH⟩ := Ke.newList (l := ⟨true, xs⟩) S hk ha ho hv
    exact q _ _ _ _ _ K (.ref a) (f a hH)
theorem tup_new {loc : Loc} {Z : Zm} {H : LH} {s s' : Shared} {a : Addr} {vs : List Value} {k : Nat} {xs : List PV} {Q : PV → LH → Prop} {Q' : Value → Shared → Prop} (S : Sat h₀ Z env loc H s.heap) (f : Q (.tup xs) H)
    (q : ∀ v p Z' H' s', Ke h₀ env loc Z H s Z' H' s' → VR Z' p v → Q p H' → Q' v s') (hk : Kp s s') (ha : s.heap.get? a = none) (ho : s'.heap.get? a = some { cls := .type "tuple", data := .seq vs.toArray k }) (hv : VRs Z xs vs) : Q' (.ref a) s' := by
  have K := Ke.frozen S hk ha ho
  exact q _ _ _ _ _ K (.tup (Zm.set_self _ _ _) (hv.mono K.fz.1)) f
end
abbrev EsT := St → (List PV → LH → Prop) → Prop
def EsOk (h₀ : Heap) (prog : Program) (w : World) (n : Nat) (env : Env) (es : List Expr) (F : EsT) : Prop :=
  ∀ (A : Around) (Z : Zm) (loc : Loc) (H : LH) (s : Shared) (pos : Pos) (Q : List PV → LH → Prop) (Q' : List Value → Shared → Prop) (E : Value → Shared → Prop),
    Rm n A → Sat h₀ Z env loc H s.heap → F ⟨loc, H⟩ Q →
    (∀ v p Z' H' s', Ke h₀ env loc Z H s Z' H' s' → VRs Z' p v → Q p H' → Q' v s') → wpAny (model prog w) A (spliced (backTo pos (starEach es env))) Q' E s
section
variable {h₀ : Heap} {prog : Program} {w : World} {n : Nat} {env : Env}
theorem es_nil : EsOk h₀ prog w n env [] (fun σ Q => Q [] σ.H) :=
  fun _ _ _ _ _ _ _ _ _ _ S f q => wpAny_items_nil (q _ _ _ _ _ (Ke.refl S) .nil f)
theorem es_cons {e : Expr} {rest : List Expr} {fe : ET} {fr : EsT} (he : EvOk h₀ prog w n env e fe) (hr : EsOk h₀ prog w n env rest fr) (hs : starEach (e :: rest) env = (false, eval e env) :: starEach rest env := by rfl) :
    EsOk h₀ prog w n env (e :: rest) (fun σ Q => fe σ fun a H₁ => fr ⟨σ.loc, H₁⟩ fun as H₂ => Q (a :: as) H₂) := by
  intro A Z loc H s pos Q Q' E rm S f q
  refine wpAny_items_cons (he A Z loc H s _ _ _ rm S f fun x a Z₁ H₁ s₁ k₁ va f₁ => ?_) hs
  refine hr A Z₁ loc H₁ s₁ pos _ _ _ rm k₁.sat f₁ fun y b Z₂ H₂ s₂ k₂ vb f₂ => ?_
  exact q _ _ _ _ _ (k₁.trans k₂) (.cons (va.mono k₂.fz.1) vb) f₂
theorem ev_list {es : List Expr} {pos : Pos} {F : EsT} (hes : EsOk h₀ prog w n env es F) :
    EvOk h₀ prog w n env (.List es pos) (fun σ Q => F σ fun xs H₁ => xs.length ≤ sizeLine ∧ listW xs H₁ Q) := by
  intro A Z loc H s Q Q' E rm S f q
  refine wpAny_List (hes A Z loc H s pos _ _ _ rm S f fun vs xs Z₁ H₁ s₁ k₁ va f₁ => ⟨by rw [va.length]; exact f₁.1, ?_⟩)
  exact list_new k₁.sat f₁.2 (fun _ _ _ _ _ k v f => q _ _ _ _ _ (k₁.trans k) v f) (Kp.push _ _) (get_size _) (Heap.get?_push_size _ rfl) va
theorem ev_tuple {es : List Expr} {k : Nat} {pos : Pos} {F : EsT} (hes : EsOk h₀ prog w n env es F) :
    EvOk h₀ prog w n env (.Tuple es k pos) (fun σ Q => F σ fun xs H₁ => xs.length ≤ sizeLine ∧ Q (.tup xs) H₁) := by
  intro A Z loc H s Q Q' E rm S f q
  refine wpAny_Tuple (hes A Z loc H s pos _ _ _ rm S f fun vs xs Z₁ H₁ s₁ k₁ va f₁ => ⟨by rw [va.length]; exact f₁.1, ?_⟩)
  exact tup_new k₁.sat f₁.2 (fun _ _ _ _ _ k v f => q _ _ _ _ _ (k₁.trans k) v f) (Kp.push _ _) (get_size _) (Heap.get?_push_size _ rfl) va
theorem ev_ifexp {t b o : Expr} {pos : Pos} {ft : BT} {fb fo : ET} (ht : BtOk h₀ prog w n env t ft) (hb : EvOk h₀ prog w n env b fb) (ho : EvOk h₀ prog w n env o fo) :
    EvOk h₀ prog w n env (.IfExp t b o pos) (fun σ Q => ft σ fun c H₁ => if c then fb ⟨σ.loc, H₁⟩ Q else fo ⟨σ.loc, H₁⟩ Q) := by
  intro A Z loc H s Q Q' E rm S f q
  refine wpAny_IfExp (ht A Z loc H s _ _ _ rm S f fun c Z₁ H₁ s₁ k₁ f₁ => ?_)
  cases c with
  | true => exact hb A Z₁ loc H₁ s₁ Q Q' E rm k₁.sat f₁ fun _ _ _ _ _ k v f => q _ _ _ _ _ (k₁.trans k) v f
  | false => exact ho A Z₁ loc H₁ s₁ Q Q' E rm k₁.sat f₁ fun _ _ _ _ _ k v f => q _ _ _ _ _ (k₁.trans k) v f
end
end Mine
end
section
namespace Mine
/-- the items of a list -/
def lstOf (H : LH) : PV → Option (List PV)
  | .lst xs => some xs
  | .ref a => (H a).map (·.xs)
  | _ => none
/-- a list as it stands in the heap -/
theorem lst_at {h₀ : Heap} {Z : Zm} {env : Env} {loc : Loc} {H : LH} {h : Heap} {p : PV} {v : Value} {xs : List PV} (S : Sat h₀ Z env loc H h) (hv : VR Z p v) (e : lstOf H p = some xs) :
    ∃ a vs n, v = .ref a ∧ h.get? a = some { cls := .type "list", data := .seq (List.toArray vs) n } ∧ VRs Z xs vs := by
  cases hv with
  | lst z r => cases e; exact ⟨_, _, _, rfl, S.frz _ _ z, r⟩
  | ref a =>
    change (H a).map (·.xs) = some xs at e
    cases q : H a with
    | none => rw [q] at e; cases e
    | some l =>
      rw [q] at e; cases e
      obtain ⟨_, vs, n, ho, r⟩ := S.obj a l q
      exact ⟨a, vs, n, rfl, ho, r⟩
  | _ => cases e
theorem lst_isList {h₀ : Heap} {Z : Zm} {env : Env} {loc : Loc} {H : LH} {h : Heap} {p : PV} {v : Value} {xs : List PV} (S : Sat h₀ Z env loc H h) (hv : VR Z p v) (e : lstOf H p = some xs) :
    ∃ a vs, v = .ref a ∧ h.IsList a (List.toArray vs) ∧ VRs Z xs vs := by
  obtain ⟨a, vs, n, e1, e2, e5⟩ := lst_at S hv e
  exact ⟨a, vs, e1, ⟨_, e2, rfl, n, rfl⟩, e5⟩
def addW (a b : PV) (H : LH) (Q : PV → LH → Prop) : Prop :=
  match a, b with
  | .int i, .int j => Q (.int (i + j)) H
  | .str x, .str y => x.length + y.length ≤ sizeLine ∧ Q (.str (x ++ y)) H
  | a, b => ∃ xs ys, lstOf H a = some xs ∧ lstOf H b = some ys ∧ xs.length + ys.length ≤ sizeLine ∧ listW (xs ++ ys) H Q
def mulW (a b : PV) (H : LH) (Q : PV → LH → Prop) : Prop :=
  match a, b with
  | .int i, .int j => IntMulOk i j ∧ Q (.int (i * j)) H
  | .str x, .int j => MulOk x j ∧ Q (.str (Txt.mul x j)) H
  | _, _ => False
def intW (P : Int → Int → Prop) (f : Int → Int → Int) (a b : PV) (H : LH) (Q : PV → LH → Prop) : Prop :=
  match a, b with
  | .int i, .int j => P i j ∧ Q (.int (f i j)) H
  | _, _ => False
def subW (a b : PV) (H : LH) (Q : PV → LH → Prop) : Prop :=
  match a, b with
  | .int i, .int j => Q (.int (i - j)) H
  | _, _ => False
def binW (op : Operator) (a b : PV) (H : LH) (Q : PV → LH → Prop) : Prop :=
  match op with
  | .Add => addW a b H Q
  | .Sub => subW a b H Q
  | .Mult => mulW a b H Q
  | .FloorDiv => intW (fun _ j => j ≠ 0 ∧ j.natAbs < 1073741824) Int.fdiv a b H Q
  | .Mod => intW (fun _ j => j ≠ 0) Int.fmod a b H Q
  | _ => False
section
variable {h₀ : Heap} {prog : Program} {w : World} {n : Nat} {env : Env}
theorem add_lists_ok {loc : Loc} {Z : Zm} {H : LH} {s : Shared} {a b : PV} {x y : Value} {xs ys : List PV} {A : Around} {Q : PV → LH → Prop} {Q' : Value → Shared → Prop} {E : Value → Shared → Prop}
    (S : Sat h₀ Z env loc H s.heap) (va : VR Z a x) (vb : VR Z b y) (ha : lstOf H a = some xs) (hb : lstOf H b = some ys) (hsz : xs.length + ys.length ≤ sizeLine) (f : listW (xs ++ ys) H Q)
    (q : ∀ v p Z' H' s', Ke h₀ env loc Z H s Z' H' s' → VR Z' p v → Q p H' → Q' v s') : wpAny (model prog w) A (binaryOp .Add x y) Q' E s := by
  obtain ⟨l, vs, k, rfl, ho, r1⟩ := lst_at S va ha
  obtain ⟨l2, ws, k2, rfl, ho2, r2⟩ := lst_at S vb hb
  have e : vs.toArray ++ ws.toArray = (vs ++ ws).toArray := by simp
  refine concat_meets ⟨_, ho, rfl⟩ ⟨_, ho2, rfl⟩ noFill_list_add seq_list_add PySem.F.slot_list_add PySem.F.entry_list_add (PySem.F.args_list_add_2 _ _)
    (list_addW l l2 vs.toArray ws.toArray k k2 none none #[] #[] (by simpa [r1.length, r2.length] using hsz)) ⟨ho, ho2, ?_⟩
  rw [e]
  exact list_new S f q (Kp.push _ _) (get_size _) (Heap.get?_push_size _ rfl) (r1.append r2)
theorem bin_ok (op : Operator) (loc : Loc) (Z : Zm) (H : LH) (s : Shared) (a b : PV) (x y : Value) (S : Sat h₀ Z env loc H s.heap) (va : VR Z a x) (vb : VR Z b y) : OpOk h₀ prog w n env loc Z H s (binaryOp op x y) (binW op a b H) := by
  intro A Q Q' E rm f q
  have hInts : ∀ {P f}, intW P f a b H Q → ∃ i j t u, a = .int i ∧ b = .int j ∧ x = .int i t ∧ y = .int j u ∧ P i j ∧ Q (.int (f i j)) H := fun {P f} h => by
    unfold intW at h
    split at h
    · cases va with | int _ t => cases vb with | int _ u => exact ⟨_, _, t, u, rfl, rfl, rfl, rfl, h⟩
    · exact h.elim
  cases op with
  | Add =>
    change addW a b H Q at f
    unfold addW at f
    split at f
    · cases va with | int i t => cases vb with | int j u => exact op_val S f q fun h => P.add_int (h _ _ (.int _ _))
    · cases va with | str i t => cases vb with | str j u => exact op_val S f.2 q fun h => PyProof.Rows.add_str (fun t' tk => h _ tk (.str _ t')) f.1
    · obtain ⟨xs, ys, ha, hb, hsz, f⟩ := f
      exact add_lists_ok S va vb ha hb hsz f q
  | Sub =>
    change subW a b H Q at f
    unfold subW at f
    split at f
    · cases va with | int i t => cases vb with | int j u => exact op_val S f q fun h => P.sub_int (h _ _ (.int _ _))
    · exact f.elim
  | Mult =>
    change mulW a b H Q at f
    unfold mulW at f
    split at f
    · cases va with | int i t => cases vb with | int j u => exact op_val S f.2 q fun h => P.mul_int (h _ _ (.int _ _)) f.1
    · cases va with | str i t => cases vb with | int j u => exact op_val S f.2 q fun h => SB.mul f.1 (fun t' tk => h _ tk (.str _ t'))
    · exact f.elim
  | FloorDiv => obtain ⟨i, j, t, u, rfl, rfl, rfl, rfl, hp, f⟩ := hInts f; exact op_val S f q fun h => PyProof.Rows.floordiv_int hp.1 (h _ _ (.int _ _)) (.inl (PyProof.noPylong_small hp.2))
  | Mod => obtain ⟨i, j, t, u, rfl, rfl, rfl, rfl, hp, f⟩ := hInts f; exact op_val S f q fun h => PyProof.Rows.mod_int' hp (h _ _ (.int _ _))
  | _ => exact f.elim
/-- += and its kin, on values -/
def inAddW (a b : PV) (H : LH) (Q : PV → LH → Prop) : Prop :=
  match a, b with
  | .int i, .int j => Q (.int (i + j)) H
  | .str x, .str y => x.length + y.length ≤ sizeLine ∧ Q (.str (x ++ y)) H
  | _, _ => False
def inW (op : Operator) (a b : PV) (H : LH) (Q : PV → LH → Prop) : Prop :=
  match op with
  | .Add => inAddW a b H Q
  | .Sub => subW a b H Q
  | _ => False
theorem in_ok (op : Operator) (loc : Loc) (Z : Zm) (H : LH) (s : Shared) (a b : PV) (x y : Value) (S : Sat h₀ Z env loc H s.heap) (va : VR Z a x) (vb : VR Z b y) : OpOk h₀ prog w n env loc Z H s (inplaceOp op x y) (inW op a b H) := by
  intro A Q Q' E rm f q
  cases op with
  | Add =>
    change inAddW a b H Q at f
    unfold inAddW at f
    split at f
    · cases va with | int i t => cases vb with | int j u => exact op_val S f q fun h => P.iadd_int (h _ _ (.int _ _))
    · cases va with | str i t => cases vb with | str j u => exact op_val S f.2 q fun h => PyProof.Rows.iadd_str (fun t' tk => h _ tk (.str _ t')) f.1
    · exact f.elim
  | Sub =>
    change subW a b H Q at f
    unfold subW at f
    split at f
    · cases va with | int i t => cases vb with | int j u => exact op_val S f q fun h => P.isub_int (h _ _ (.int _ _))
    · exact f.elim
  | _ => exact f.elim
theorem ev_binop {l r : Expr} {op : Operator} {pos : Pos} {fl fr : ET} (hl : EvOk h₀ prog w n env l fl) (hr : EvOk h₀ prog w n env r fr) :
    EvOk h₀ prog w n env (.BinOp l op r pos) (fun σ Q => fl σ fun a H₁ => fr ⟨σ.loc, H₁⟩ fun b H₂ => binW op a b H₂ Q) := ev_bin hl hr (bin_ok op)
/-- -x -/
theorem ev_neg {e : Expr} {pos : Pos} {fe : ET} (he : EvOk h₀ prog w n env e fe) :
    EvOk h₀ prog w n env (.UnaryOp .USub e pos) (fun σ Q => fe σ fun a H₁ => ∃ i, a = .int i ∧ Q (.int (-i)) H₁) := by
  intro A Z loc H s Q Q' E rm S f q
  refine wpAny_UnaryOp (he A Z loc H s _ _ _ rm S f fun x a Z₁ H₁ s₁ k₁ va f₁ => ?_)
  obtain ⟨i, rfl, f₁⟩ := f₁
  cases va with
  | int i t => exact P.neg_int (q _ _ _ _ _ (k₁.trans (Ke.toks k₁.sat _)) (.int _ _) f₁)
end
end Mine
end
section
namespace Mine
mutual
/-- the datum that a value is -/
inductive Dt (H : LH) : PV → PyData → Prop
  | none : Dt H .none .none
  | bool (b : Bool) : Dt H (.bool b) (.bool b)
  | int (i : Int) : Dt H (.int i) (.int i)
  | str (x : Str) : Dt H (.str x) (.str x)
  | tup {xs : List PV} {ds : List PyData} : Dts H xs ds → Dt H (.tup xs) (.tuple ds)
  | lst {xs : List PV} {ds : List PyData} : Dts H xs ds → Dt H (.lst xs) (.list ds)
  | ref {a : Addr} {l : LO} {ds : List PyData} : H a = some l → Dts H l.xs ds → Dt H (.ref a) (.list ds)
inductive Dts (H : LH) : List PV → List PyData → Prop
  | nil : Dts H [] []
  | cons {x : PV} {d : PyData} {xs : List PV} {ds : List PyData} : Dt H x d → Dts H xs ds → Dts H (x :: xs) (d :: ds)
end
section
variable {h₀ : Heap} {Z : Zm} {env : Env} {loc : Loc} {H : LH} {h : Heap}
mutual
theorem Dt.reads (S : Sat h₀ Z env loc H h) : ∀ {p : PV} {d : PyData} {v : Value}, Dt H p d → VR Z p v → ∃ as, Reads h v d as
  | _, _, _, .none, hv => by cases hv; exact ⟨_, .none⟩
  | _, _, _, .bool _, hv => by cases hv; exact ⟨_, .bool _⟩
  | _, _, _, .int _, hv => by cases hv; exact ⟨_, .int _ _⟩
  | _, _, _, .str _, hv => by cases hv; exact ⟨_, .str _ _⟩
  | _, _, _, .tup r, hv => by
      cases hv with
      | tup z k => obtain ⟨_, q⟩ := Dts.reads S r k; exact ⟨_, .tuple (S.frz _ _ z) rfl rfl q⟩
  | _, _, _, .lst r, hv => by
      cases hv with
      | lst z k => obtain ⟨_, q⟩ := Dts.reads S r k; exact ⟨_, .list (S.frz _ _ z) rfl rfl q⟩
  | _, _, _, .ref e r, hv => by
      cases hv
      obtain ⟨_, vs, n, ho, k⟩ := S.obj _ _ e
      obtain ⟨_, q⟩ := Dts.reads S r k
      exact ⟨_, .list ho rfl rfl q⟩
theorem Dts.reads (S : Sat h₀ Z env loc H h) : ∀ {p : List PV} {d : List PyData} {v : List Value}, Dts H p d → VRs Z p v → ∃ as, ReadsAll h v d as
  | _, _, _, .nil, hv => by cases hv; exact ⟨_, .nil⟩
  | _, _, _, .cons a r, hv => by
      cases hv with
      | cons b k =>
        obtain ⟨_, x⟩ := Dt.reads S a b
        obtain ⟨_, y⟩ := Dts.reads S r k
        exact ⟨_, .cons x y⟩
end
end
def eqW (a b : PV) (H : LH) (Q : Bool → Prop) : Prop :=
  match a, b with
  | .int i, .int j => Q (i == j)
  | .str x, .str y => Q (x == y)
  | a, b => ∃ da db, Dt H a da ∧ Dt H b db ∧ SeqAt.shaped da = true ∧ SeqAt.shaped db = true ∧ Q (PyData.eqv da db)
def ordW (f : Int → Int → Bool) (a b : PV) (Q : Bool → Prop) : Prop :=
  match a, b with
  | .int i, .int j => Q (f i j)
  | _, _ => False
def memW (a b : PV) (Q : Bool → Prop) : Prop :=
  match a, b with
  | .str y, .str x => Q (!(Builtin.Str.occurrences x y 0 x.length 1).isEmpty)
  | _, _ => False
def isW (a b : PV) (Q : Bool → Prop) : Prop :=
  match b with
  | .none => (match a with
    | .none => Q true
    | .bool _ => Q false
    | _ => False)
  | _ => False
def cmpW (op : CmpOp) (a b : PV) (H : LH) (Q : Bool → Prop) : Prop :=
  match op with
  | .Eq => eqW a b H Q
  | .NotEq => eqW a b H fun c => Q (!c)
  | .Lt => ordW (fun i j => decide (i < j)) a b Q
  | .LtE => ordW (fun i j => decide (i ≤ j)) a b Q
  | .Gt => ordW (fun i j => decide (i > j)) a b Q
  | .GtE => ordW (fun i j => decide (i ≥ j)) a b Q
  | .In => memW a b Q
  | .Is => isW a b Q
  | _ => False
section
variable {h₀ : Heap} {prog : Program} {w : World} {n : Nat} {env : Env}
theorem cmp_ok {A : Around} {op : CmpOp} {loc : Loc} {Z : Zm} {H : LH} {s : Shared} {a b : PV} {x y : Value} {Q : Bool → Prop} {Q' : Value → Shared → Prop} {E : Value → Shared → Prop} (rm : Rm n A) (S : Sat h₀ Z env loc H s.heap) (va : VR Z a x) (vb : VR Z b y) (f : cmpW op a b H Q)
    (q : ∀ c, Q c → Q' (.bool c) s) : wpAny (model prog w) A (compareOp op x y) Q' E s := by
  have hu : A.units + 64 < cLine := by have := rm.un; omega
  have ord : ∀ {g : Int → Int → Bool}, ordW g a b Q → ∃ i j t u, a = .int i ∧ b = .int j ∧ x = .int i t ∧ y = .int j u ∧ Q (g i j) := fun {g} h => by
    unfold ordW at h
    split at h
    · cases va with | int _ t => cases vb with | int _ u => exact ⟨_, _, t, u, rfl, rfl, rfl, rfl, h⟩
    · exact h.elim
  cases op with
  | Eq =>
    change eqW a b H Q at f
    unfold eqW at f
    split at f
    · cases va with | int i t => cases vb with | int j u => exact P.eq_int (q _ f)
    · cases va with | str i t => cases vb with | str j u => exact PyProof.Rows.eq_str (q _ f)
    · obtain ⟨da, db, ha, hb, sa, sb, f⟩ := f
      obtain ⟨_, ra⟩ := ha.reads S va
      obtain ⟨_, rb⟩ := hb.reads S vb
      exact SeqAt.compareEq_shaped ra rb sa sb hu (q _ f)
  | NotEq =>
    change eqW a b H (fun c => Q (!c)) at f
    unfold eqW at f
    split at f
    · cases va with | int i t => cases vb with | int j u => exact P.ne_int (q _ f)
    · cases va with | str i t => cases vb with | str j u => exact PyProof.Rows.ne_str (q _ f)
    · obtain ⟨da, db, ha, hb, sa, sb, f⟩ := f
      obtain ⟨_, ra⟩ := ha.reads S va
      obtain ⟨_, rb⟩ := hb.reads S vb
      exact SeqAt.compareNe_shaped ra rb sa sb hu (q _ f)
  | Lt => obtain ⟨i, j, t, u, rfl, rfl, rfl, rfl, f⟩ := ord f; exact P.lt_int (q _ f)
  | LtE => obtain ⟨i, j, t, u, rfl, rfl, rfl, rfl, f⟩ := ord f; exact P.le_int (q _ f)
  | Gt => obtain ⟨i, j, t, u, rfl, rfl, rfl, rfl, f⟩ := ord f; exact P.gt_int (q _ f)
  | GtE => obtain ⟨i, j, t, u, rfl, rfl, rfl, rfl, f⟩ := ord f; exact P.ge_int (q _ f)
  | In =>
    change memW a b Q at f
    unfold memW at f
    split at f
    · cases va with | str i t => cases vb with | str j u => exact PyProof.Rows.in_str (q _ f)
    · exact f.elim
  | Is =>
    cases b with
    | none =>
      cases vb
      cases va with
      | none => exact is_none (q _ f)
      | bool c => exact is_none (q _ f)
      | _ => exact f.elim
    | _ => exact f.elim
  | _ => exact f.elim
theorem ev_cmp {l r : Expr} {op : CmpOp} {pos : Pos} {fl fr : ET} (hl : EvOk h₀ prog w n env l fl) (hr : EvOk h₀ prog w n env r fr) (hm : behindInMarks op r = false := by with_unfolding_all rfl) :
    EvOk h₀ prog w n env (.Compare l [op] [r] pos) (fun σ Q => fl σ fun a H₁ => fr ⟨σ.loc, H₁⟩ fun b H₂ => cmpW op a b H₂ fun c => Q (.bool c) H₂) := by
  intro A Z loc H s Q Q' E rm S f q
  refine wpAny_Compare1 (hl A Z loc H s _ _ _ rm S f fun x a Z₁ H₁ s₁ k₁ va f₁ => ?_) hm
  refine hr A Z₁ loc H₁ s₁ _ _ _ rm k₁.sat f₁ fun y b Z₂ H₂ s₂ k₂ vb f₂ => ?_
  exact cmp_ok rm k₂.sat (va.mono k₂.fz.1) vb f₂ fun c hc => q _ _ _ _ _ (k₁.trans k₂) (.bool c) hc
theorem bt_cmp {l r : Expr} {op : CmpOp} {pos : Pos} {fl fr : ET} (hl : EvOk h₀ prog w n env l fl) (hr : EvOk h₀ prog w n env r fr) (hm : behindInMarks op r = false := by with_unfolding_all rfl) :
    BtOk h₀ prog w n env (.Compare l [op] [r] pos) (fun σ Q => fl σ fun a H₁ => fr ⟨σ.loc, H₁⟩ fun b H₂ => cmpW op a b H₂ fun c => Q c H₂) := by
  intro A Z loc H s Q Q' E rm S f q
  refine wpAny_isTrue_Compare1 (hl A Z loc H s _ _ _ rm S f fun x a Z₁ H₁ s₁ k₁ va f₁ => ?_) hm
  refine hr A Z₁ loc H₁ s₁ _ _ _ rm k₁.sat f₁ fun y b Z₂ H₂ s₂ k₂ vb f₂ => ?_
  exact cmp_ok rm k₂.sat (va.mono k₂.fz.1) vb f₂ fun c hc => wpAny_truthy_bool (q _ _ _ _ (k₁.trans k₂) hc)
def truthW (a : PV) (H : LH) (Q : Bool → Prop) : Prop :=
  match a with
  | .bool b => Q b
  | .int i => Q (i != 0)
  | .none => Q false
  | .str x => x.length < 2 ^ 62 ∧ Q (x.length != 0)
  | a => ∃ xs, lstOf H a = some xs ∧ xs.length < 2 ^ 62 ∧ Q (!xs.isEmpty)
theorem truth_ok {A : Around} {loc : Loc} {Z : Zm} {H : LH} {s : Shared} {a : PV} {x : Value} {Q : Bool → Prop} {Q' : Bool → Shared → Prop} {E : Value → Shared → Prop} (S : Sat h₀ Z env loc H s.heap) (va : VR Z a x) (f : truthW a H Q)
    (q : ∀ c tk, Q c → Q' c { s with toks := tk }) : wpAny (model prog w) A (truthy x) Q' E s := by
  unfold truthW at f
  split at f
  · cases va with | bool b => exact wpAny_truthy_bool (q _ s.toks f)
  · cases va with | int i t => exact P.truthy_int (q _ s.toks f)
  · cases va with | none => exact truthy_none (q _ s.toks f)
  · rename_i y
    cases va with
    | str _ t =>
      refine P.truthy_str (by have := f.1; omega) (q _ _ ?_)
      have e : ((y.length : Int) != 0) = (y.length != 0) := by
        cases h : y.length with
        | zero => rfl
        | succ k => simp; omega
      rw [e]; exact f.2
  · obtain ⟨xs, hx, hsz, f⟩ := f
    obtain ⟨l, vs, rfl, hl, r⟩ := lst_isList S va hx
    refine wpAny_truthy_list hl (by simp [r.length]; omega) ?_
    have e : vs.isEmpty = xs.isEmpty := by
      cases r with
      | nil => rfl
      | cons _ _ => rfl
    rw [← e] at f
    simpa using q _ _ f
/-- any expression as a test -/
theorem bt_val {e : Expr} {fe : ET} (he : EvOk h₀ prog w n env e fe) (hv : isTrue e env (eval e env) = (do let v ← eval e env; standAt e.pos; holding [v] (truthy v)) := by rfl) :
    BtOk h₀ prog w n env e (fun σ Q => fe σ fun a H₁ => truthW a H₁ fun c => Q c H₁) := by
  intro A Z loc H s Q Q' E rm S f q
  refine wpAny_isTrue_value (he A Z loc H s _ _ _ rm S f fun x a Z₁ H₁ s₁ k₁ va f₁ => ?_) hv
  exact truth_ok k₁.sat va f₁ fun c tk hc => q _ _ _ _ (k₁.trans (Ke.toks k₁.sat tk)) hc
theorem bt_not {e : Expr} {pos : Pos} {fe : BT} (he : BtOk h₀ prog w n env e fe) : BtOk h₀ prog w n env (.UnaryOp .Not e pos) (fun σ Q => fe σ fun c H₁ => Q (!c) H₁) := by
  intro A Z loc H s Q Q' E rm S f q
  exact wpAny_isTrue_Not (he A Z loc H s _ _ _ rm S f fun c Z₁ H₁ s₁ k₁ f₁ => q _ _ _ _ k₁ f₁)
def AtOk (h₀ : Heap) (prog : Program) (w : World) (n : Nat) (env : Env) (op : BoolOp) (es : List Expr) (F : BT) : Prop :=
  ∀ (A : Around) (Z : Zm) (loc : Loc) (H : LH) (s : Shared) (Q : Bool → LH → Prop) (Q' : Bool → Shared → Prop) (E : Value → Shared → Prop),
    Rm n A → Sat h₀ Z env loc H s.heap → F ⟨loc, H⟩ Q →
    (∀ b Z' H' s', Ke h₀ env loc Z H s Z' H' s' → Q b H' → Q' b s') → wpAny (model prog w) A (allTrue op es env) Q' E s
theorem at_and_nil : AtOk h₀ prog w n env .And [] (fun σ Q => Q true σ.H) := fun _ _ _ _ _ _ _ _ _ S f q => wpAny_allTrue_And_nil (q _ _ _ _ (Ke.refl S) f)
theorem at_or_nil : AtOk h₀ prog w n env .Or [] (fun σ Q => Q false σ.H) := fun _ _ _ _ _ _ _ _ _ S f q => wpAny_allTrue_Or_nil (q _ _ _ _ (Ke.refl S) f)
theorem at_and_cons {e : Expr} {r : List Expr} {fe fr : BT} (he : BtOk h₀ prog w n env e fe) (hr : AtOk h₀ prog w n env .And r fr) :
    AtOk h₀ prog w n env .And (e :: r) (fun σ Q => fe σ fun c H₁ => if c then fr ⟨σ.loc, H₁⟩ Q else Q false H₁) := by
  intro A Z loc H s Q Q' E rm S f q
  refine wpAny_allTrue_And_cons (he A Z loc H s _ _ _ rm S f fun c Z₁ H₁ s₁ k₁ f₁ => ?_)
  cases c with
  | true => exact hr A Z₁ loc H₁ s₁ Q Q' E rm k₁.sat f₁ fun _ _ _ _ k f => q _ _ _ _ (k₁.trans k) f
  | false => exact q _ _ _ _ k₁ f₁
theorem at_or_cons {e : Expr} {r : List Expr} {fe fr : BT} (he : BtOk h₀ prog w n env e fe) (hr : AtOk h₀ prog w n env .Or r fr) :
    AtOk h₀ prog w n env .Or (e :: r) (fun σ Q => fe σ fun c H₁ => if c then Q true H₁ else fr ⟨σ.loc, H₁⟩ Q) := by
  intro A Z loc H s Q Q' E rm S f q
  refine wpAny_allTrue_Or_cons (he A Z loc H s _ _ _ rm S f fun c Z₁ H₁ s₁ k₁ f₁ => ?_)
  cases c with
  | true => exact q _ _ _ _ k₁ f₁
  | false => exact hr A Z₁ loc H₁ s₁ Q Q' E rm k₁.sat f₁ fun _ _ _ _ k f => q _ _ _ _ (k₁.trans k) f
theorem bt_bool {op : BoolOp} {es : List Expr} {pos : Pos} {F : BT} (h : AtOk h₀ prog w n env op es F) : BtOk h₀ prog w n env (.BoolOp op es pos) F :=
  fun A Z loc H s Q Q' E rm S f q => wpAny_isTrue_BoolOp (h A Z loc H s Q Q' E rm S f q)
end
end Mine
end
section
namespace Mine
/-- xs[lo:hi] -/
def cut {α : Type} (xs : List α) (lo hi : Option Int) : List α := (xs.drop (lo.elim 0 (clipAt xs.length))).take (hi.elim xs.length (clipAt xs.length) - lo.elim 0 (clipAt xs.length))
def scut (x : Str) (lo hi : Option Int) : Str := ⟨(cut x.cps.toList lo hi).toArray⟩
theorem clipAt_le (n : Nat) (i : Int) : clipAt n i ≤ n := by unfold clipAt; omega
theorem strSlice_plain (lo hi : Option Int) (n : Nat) : Builtin.Str.strSliceIndices lo hi 1 n = (List.range (hi.elim n (clipAt n) - lo.elim 0 (clipAt n))).map (lo.elim 0 (clipAt n) + ·) := by
  rw [← sliceRange_one]
  unfold Builtin.Str.strSliceIndices
  cases lo <;> cases hi <;> simp [clipAt_cast]
theorem txt_slice (x : Str) (lo hi : Option Int) : Txt.slice x lo hi = scut x lo hi := by
  unfold Txt.slice scut cut
  have hl : x.length = x.cps.toList.length := by simp [Str.length]
  rw [strSlice_plain, pick_run]
  by_cases h : ((1 : Int) == 1 && ((List.range (hi.elim x.length (clipAt x.length) - lo.elim 0 (clipAt x.length))).map (lo.elim 0 (clipAt x.length) + ·)).length == x.length) = true
  · rw [if_pos h]
    simp only [List.length_map, List.length_range, beq_self_eq_true, Bool.true_and, beq_iff_eq] at h
    have h1 : lo.elim 0 (clipAt x.length) = 0 ∨ x.length = 0 := by
      have : hi.elim x.length (clipAt x.length) ≤ x.length := by cases hi with | none => exact Nat.le_refl _ | some i => exact clipAt_le _ _
      omega
    rw [hl] at h h1
    rcases h1 with h1 | h1
    · rw [h1] at h ⊢
      rw [List.drop_zero, h, List.take_length]
    · have : x.cps.toList = [] := List.eq_nil_of_length_eq_zero h1
      have hx : x.cps = #[] := by simpa using this
      cases x with
      | mk c => simp only at hx; subst hx; simp
  · rw [if_neg h, ← hl]
def idxW (a i : PV) (H : LH) (Q : PV → LH → Prop) : Prop :=
  match a, i with
  | .str x, .int k => (-(2 ^ 63) ≤ k ∧ k < 2 ^ 63) ∧ ∃ c, (seqIndex? k x.length).bind (x.cps[·]?) = some c ∧ Q (.str ⟨#[c]⟩) H
  | .tup xs, .int k => (-(2 ^ 63) ≤ k ∧ k < 2 ^ 63) ∧ ∃ p, (seqIndex? k xs.length).bind (xs[·]?) = some p ∧ Q p H
  | a, .int k => (-(2 ^ 63) ≤ k ∧ k < 2 ^ 63) ∧ ∃ xs p, lstOf H a = some xs ∧ (seqIndex? k xs.length).bind (xs[·]?) = some p ∧ Q p H
  | _, _ => False
section
variable {h₀ : Heap} {prog : Program} {w : World} {n : Nat} {env : Env}
theorem list_get {A : Around} {s : Shared} {l : Addr} {vs : List Value} {k : Int} {t : Tok} {j : Nat} {v : Value} {Q : Value → Shared → Prop} {E : Value → Shared → Prop} (hl : s.heap.IsList l vs.toArray) (hlo : -(2 ^ 63) ≤ k) (hhi : k < 2 ^ 63)
    (hj : seqIndex? k vs.length = some j) (hv : vs[j]? = some v) (h : Q v s) : wpAny (model prog w) A (getItem (.ref l) (.int k t)) Q E s := by
  unfold seqIndex? at hj
  by_cases h0 : k < 0
  · simp only [if_pos h0] at hj
    split at hj
    · rename_i hc
      simp only [Bool.and_eq_true, decide_eq_true_eq] at hc
      cases hj
      refine wpAny_getItem_list_neg hl h0 (by simp only [List.size_toArray]; omega) hlo (by simpa using hv) h
    · cases hj
  · simp only [if_neg h0] at hj
    split at hj
    · rename_i hc
      simp only [Bool.and_eq_true, decide_eq_true_eq] at hc
      cases hj
      exact wpAny_getItem_list hl (by omega) hhi (by simpa using hv) h
    · cases hj
theorem getItem_ok {A : Around} {loc : Loc} {Z : Zm} {H : LH} {s : Shared} {a i : PV} {x y : Value} {Q : PV → LH → Prop} {Q' : Value → Shared → Prop} {E : Value → Shared → Prop} (S : Sat h₀ Z env loc H s.heap) (va : VR Z a x) (vi : VR Z i y) (f : idxW a i H Q)
    (q : ∀ v p tk, VR Z p v → Q p H → Q' v { s with toks := tk }) :
    (∃ T id, s.TypeIs x T ∧ typeLookup (.type T) "__getitem__" = pure (some (.builtin id))) ∧ wpAny (model prog w) A (getItem x y) Q' E s := by
  unfold idxW at f
  split at f
  · cases va with
    | str _ t =>
      cases vi with
      | int _ u =>
        obtain ⟨⟨h1, h2⟩, c, hc, f⟩ := f
        exact ⟨⟨"str", _, typeIs_str s _ t, PySem.F.slot_str_getitem.lookup⟩, P.getItem_str (by simp; omega) hc (q _ _ _ (.str _ _) f)⟩
  · cases vi with
    | int _ u =>
      obtain ⟨⟨h1, h2⟩, p, hp, f⟩ := f
      cases va with
      | tup z r =>
        obtain ⟨j, hj, hx⟩ := Option.bind_eq_some_iff.mp hp
        obtain ⟨v, hv, vr⟩ := r.get hx
        have ho := S.frz _ _ z
        have hT : IsTup s.heap _ _ := ⟨_, ho, rfl, _, rfl⟩
        exact ⟨⟨"tuple", _, hT.typeIs, PySem.F.slot_tuple_getitem.lookup⟩, PyProof.Rows.getItem_tuple hT h1 h2 (by rw [List.size_toArray, r.length]; exact hj) (by simpa using hv) (q _ _ s.toks vr f)⟩
  · cases vi with
    | int _ u =>
      obtain ⟨⟨h1, h2⟩, xs, p, hl, hp, f⟩ := f
      obtain ⟨l, vs, rfl, hL, r⟩ := lst_isList S va hl
      obtain ⟨j, hj, hx⟩ := Option.bind_eq_some_iff.mp hp
      obtain ⟨v, hv, vr⟩ := r.get hx
      exact ⟨⟨"list", _, hL.typeIs, slot_list_getitem.lookup⟩, list_get hL h1 h2 (by rw [r.length]; exact hj) hv (q _ _ s.toks vr f)⟩
  · exact f.elim
theorem ev_idx {e i : Expr} {pos : Pos} {fe fi : ET} (he : EvOk h₀ prog w n env e fe) (hi : EvOk h₀ prog w n env i fi) (hs : ∀ o v, subscripted i false o v = operate [o, v] (getItem o v) := by intro _ _; rfl) :
    EvOk h₀ prog w n env (.Subscript e i pos) (fun σ Q => fe σ fun a H₁ => fi ⟨σ.loc, H₁⟩ fun b H₂ => idxW a b H₂ Q) := by
  intro A Z loc H s Q Q' E rm S f q
  refine Subscript_ (he A Z loc H s _ _ _ rm S f fun x a Z₁ H₁ s₁ k₁ va f₁ => ?_)
  refine hi A Z₁ loc H₁ s₁ _ _ _ rm k₁.sat f₁ fun y b Z₂ H₂ s₂ k₂ vb f₂ => ?_
  obtain ⟨⟨T, id, hT, hl⟩, hg⟩ := getItem_ok (prog := prog) (w := w) (A := A) (Q' := Q') (E := E) k₂.sat (va.mono k₂.fz.1) vb f₂ fun v p tk hv hq => q _ _ _ _ _ (k₁.trans (k₂.trans (Ke.toks k₂.sat tk))) hv hq
  exact tail_any hT hl hg (hs _ _)
/-- a slice's part -/
inductive Pt (Z : Zm) : Option Int → Value → Prop
  | none : Pt Z Option.none .none
  | int (i : Int) (t : Tok) : Pt Z (some i) (.int i t)
abbrev OT := St → (Option Int → LH → Prop) → Prop
def PtOk (h₀ : Heap) (prog : Program) (w : World) (n : Nat) (env : Env) (e : Option Expr) (F : OT) : Prop :=
  ∀ (A : Around) (Z : Zm) (loc : Loc) (H : LH) (s : Shared) (Q : Option Int → LH → Prop) (Q' : Value → Shared → Prop) (E : Value → Shared → Prop),
    Rm n A → Sat h₀ Z env loc H s.heap → F ⟨loc, H⟩ Q →
    (∀ v p Z' H' s', Ke h₀ env loc Z H s Z' H' s' → Pt Z' p v → Q p H' → Q' v s') → wpAny (model prog w) A (evalPart e env) Q' E s
theorem pt_none : PtOk h₀ prog w n env none (fun σ Q => Q none σ.H) := fun _ _ _ _ _ _ _ _ _ S f q => wpAny_evalPart_none (q _ _ _ _ _ (Ke.refl S) .none f)
theorem pt_some {e : Expr} {fe : ET} (he : EvOk h₀ prog w n env e fe) : PtOk h₀ prog w n env (some e) (fun σ Q => fe σ fun a H₁ => ∃ i, a = .int i ∧ Q (some i) H₁) := by
  intro A Z loc H s Q Q' E rm S f q
  refine wpAny_evalPart_some (he A Z loc H s _ _ _ rm S f fun x a Z₁ H₁ s₁ k₁ va f₁ => ?_)
  obtain ⟨i, rfl, f₁⟩ := f₁
  cases va with | int i t => exact q _ _ _ _ _ k₁ (.int i t) f₁
def cutW (a : PV) (lo hi : Option Int) (H : LH) (Q : PV → LH → Prop) : Prop :=
  match a with
  | .str x => x.length ≤ sizeLine ∧ Q (.str (scut x lo hi)) H
  | a => ∃ xs, lstOf H a = some xs ∧ xs.length ≤ sizeLine ∧ listW (cut xs lo hi) H Q
theorem VRs.cut {Z : Zm} {xs : List PV} {vs : List Value} (r : VRs Z xs vs) (lo hi : Option Int) : VRs Z (cut xs lo hi) (cut vs lo hi) := by
  unfold Mine.cut
  rw [r.length]
  exact (r.drop _).take _
theorem Pt.part {Z : Zm} {p : Option Int} {v : Value} (h : Pt Z p v) : ∃ q : Option (Int × Tok), v = partValue q ∧ q.map (·.1) = p := by
  cases h with
  | none => exact ⟨Option.none, rfl, rfl⟩
  | int i t => exact ⟨some (i, t), rfl, rfl⟩
theorem Pt.isPart {Z : Zm} {p : Option Int} {v : Value} (h : Pt Z p v) : IsPart v p := by
  cases h with
  | none => exact .none
  | int i t => exact .int i t
theorem ev_cut {e : Expr} {lo hi : Option Expr} {p pos : Pos} {fe : ET} {fl fh : OT} (he : EvOk h₀ prog w n env e fe) (hl : PtOk h₀ prog w n env lo fl) (hh : PtOk h₀ prog w n env hi fh) :
    EvOk h₀ prog w n env (.Subscript e (.Slice lo hi none p) pos) (fun σ Q => fe σ fun a H₁ => fl ⟨σ.loc, H₁⟩ fun i H₂ => fh ⟨σ.loc, H₂⟩ fun j H₃ => cutW a i j H₃ Q) := by
  intro A Z loc H s Q Q' E rm S f q
  refine Subscript_ (he A Z loc H s _ _ _ rm S f fun x a Z₁ H₁ s₁ k₁ va f₁ => wpAny_Slice ?_)
  refine hl A Z₁ loc H₁ s₁ _ _ _ rm k₁.sat f₁ fun y i Z₂ H₂ s₂ k₂ pi f₂ => ?_
  refine hh A Z₂ loc H₂ s₂ _ _ _ rm k₂.sat f₂ fun z j Z₃ H₃ s₃ k₃ pj f₃ => ?_
  refine wpAny_evalPart_none ?_
  have kk := k₁.trans (k₂.trans k₃)
  have va' := (va.mono k₂.fz.1).mono k₃.fz.1
  have kp := Kp.push s₃ { cls := .type "slice", data := .fields #[y, z, .none] }
  have k₄ := Ke.keep k₃.sat kp
  unfold cutW at f₃
  split at f₃
  · rename_i x
    cases va' with
    | str _ t =>
      obtain ⟨l, rfl, rfl⟩ := pi.part
      obtain ⟨u, rfl, rfl⟩ := pj.part
      refine tail_any (typeIs_str _ x t) PySem.F.slot_str_getitem.lookup (wpAny_getItem_str_slice (l := l) (u := u) (st := none) ⟨_, Heap.get?_push_size _ rfl, rfl, rfl⟩ rfl ?_) rfl
      refine post_val_or_str ⟨Nat.le_trans (Txt.slice_le x _ _) f₃.1, fun t' k => ?_⟩
      have e : (if ((Option.map (fun x => x.1) (none : Option (Int × Tok))).getD 1 == 1 && (slicePicked x l u none).length == x.length) = true then x else ⟨((slicePicked x l u none).filterMap (x.cps[·]?)).toArray⟩) = scut x (l.map (·.1)) (u.map (·.1)) := txt_slice x _ _
      rw [e]
      exact q _ _ _ _ _ (kk.trans (k₄.trans (Ke.toks k₄.sat k))) (.str _ t') f₃.2
  · obtain ⟨xs, hx, hsz, f₃⟩ := f₃
    obtain ⟨l, vs, rfl, hL, r⟩ := lst_isList k₃.sat va' hx
    refine tail_any (hL.push _).typeIs slot_list_getitem.lookup (wpAny_getItem_list_slice (hL.push _) (Heap.IsSliceOf.new ..) pi.isPart pj.isPart .none (by simp) ?_ (by simp [r.length]; exact hsz)) rfl
    have e : slicePick vs.toArray i j none = (cut vs i j).toArray := by rw [slicePick_plain]; simp [cut]
    rw [e]
    exact list_new k₄.sat f₃ (fun _ _ _ _ _ k v f => q _ _ _ _ _ (kk.trans (k₄.trans k)) v f) (Kp.push _ _) (get_size _) (Heap.get?_push_size _ rfl) (r.cut i j)
end
end Mine
end
section
namespace Mine
/-- the ground: the text's own objects, its names, the built-in names -/
structure Gr (K : Frag) (h₀ : Heap) : Prop where
  X : K.In h₀
  g : ∃ mg, h₀.Ns mainGlobals mg
  b : ∃ mb, h₀.Ns builtinsNs mb ∧ ∀ x : Str, x ≠ "__name__" → mb x = bootBuiltins x
  nl : h₀.NoLimit
section
variable {K : Frag} {h₀ : Heap} {prog : Program} {w : World} {n : Nat} {env : Env}
theorem Sat.keep {Z : Zm} {loc : Loc} {H : LH} {h : Heap} (S : Sat h₀ Z env loc H h) : ∀ b o, h₀.get? b = some o → h.get? b = some o := fun b o e => S.frz b o (S.base b o e)
def NmOk (h₀ : Heap) (prog : Program) (w : World) (env : Env) (e : Expr) (fv : Value) : Prop :=
  ∀ (A : Around) (Z : Zm) (loc : Loc) (H : LH) (s : Shared) (Q' : Value → Shared → Prop) (E : Value → Shared → Prop), Sat h₀ Z env loc H s.heap → Q' fv s → wpAny (model prog w) A (eval e env) Q' E s
theorem nm_glob {x : Str} {pos : Pos} {v : Value} (G : Gr K h₀) (e : nsIn K mainGlobals x = some (some v)) (hx : env.kindOf x = some .globalImplicit) (hg : env.globals = mainGlobals) (hd : (x == ("__debug__" : Str)) = false) :
    NmOk h₀ prog w env (.Name x pos) v := fun A Z loc H s Q' E S q => by
  obtain ⟨mg, g⟩ := G.g
  exact Name_function_global S.kind hx (loadGlobal_global (by rw [hg]; exact g.keeps S.keep) (mg_of G.X g e) q) hd
theorem nm_boot {x : Str} {pos : Pos} {v : Value} (G : Gr K h₀) (e : nsIn K mainGlobals x = some none) (hv : bootBuiltins x = some v) (hn : x ≠ "__name__") (hx : env.kindOf x = some .globalImplicit) (hg : env.globals = mainGlobals) (hb : env.builtins = builtinsNs) (hd : (x == ("__debug__" : Str)) = false) :
    NmOk h₀ prog w env (.Name x pos) v := fun A Z loc H s Q' E S q => by
  obtain ⟨mg, g⟩ := G.g
  obtain ⟨mb, b, hb'⟩ := G.b
  exact Name_function_global S.kind hx (loadGlobal_builtin (by rw [hg]; exact g.keeps S.keep) (mg_none_of G.X g e) (by rw [hb]; exact b.keeps S.keep) ((hb' x hn).trans hv) q) hd
/-- what keeps a called thing -/
def KprOk (h₀ : Heap) (prog : Program) (w : World) (fv : Value) : Prop := ∀ h : Heap, (∀ b o, h₀.get? b = some o → h.get? b = some o) → ∃ k, (k = Keeper.frame ∨ k = Keeper.machine ∨ k = Keeper.boundFrame) ∧ Looks (model prog w) h (keeperOf fv) k
theorem kpr_builtin (id : String) : KprOk h₀ prog w (.builtin id) := fun _ _ => ⟨.machine, .inr (.inl rfl), Looks.of_pure rfl⟩
theorem kpr_type (id : String) : KprOk h₀ prog w (.type id) := fun _ _ => ⟨.machine, .inr (.inl rfl), Looks.of_pure rfl⟩
theorem kpr_K {f : Value} (G : Gr K h₀) (hk : keepIn K f = true) : KprOk h₀ prog w f := fun h k => keeps_K hk h (G.X.keeps k)
/-- a call with the arguments' values -/
theorem callWith_ok {A : Around} {Z : Zm} {loc : Loc} {H : LH} {s : Shared} {pos : Pos} {fv : Value} {first : List Value} {e : Expr} {rest : List Expr} {F : EsT} {Q : List PV → LH → Prop} {Q' : Value → Shared → Prop} {E : Value → Shared → Prop}
    (hk : KprOk h₀ prog w fv) (hes : EsOk h₀ prog w n env (e :: rest) F) (rm : Rm n A) (S : Sat h₀ Z env loc H s.heap) (f : F ⟨loc, H⟩ Q)
    (q : ∀ vs ps Z' H' s', Ke h₀ env loc Z H s Z' H' s' → VRs Z' ps vs → Q ps H' → wpAny (model prog w) A (call fv (first ++ vs)) Q' E s')
    (hs : starEach (e :: rest) env = (false, eval e env) :: starEach rest env) (hp : (backTo pos (starEach rest env)).any (·.1) = false) :
    wpAny (model prog w) A (callWith pos fv first (backTo pos (starEach (e :: rest) env)) []) Q' E s := by
  have key := hes A Z loc H s pos Q (fun vs s₁ => (∀ b o, h₀.get? b = some o → s₁.heap.get? b = some o) ∧ wpAny (model prog w) A (call fv (first ++ vs)) Q' E s₁) E rm S f
    fun vs ps Z' H' s' k v f' => ⟨k.sat.keep, q vs ps Z' H' s' k v f'⟩
  rw [hs] at key ⊢
  exact callWith_of (P := fun h => ∀ b o, h₀.get? b = some o → h.get? b = some o) (by show ((false || (backTo pos (starEach rest env)).any (·.1)) || false) = false; rw [hp]; rfl) (fun h k => hk h k) (PySem.Calls.evalArgs_plain key)
theorem ev_call {x : Str} {p pos : Pos} {fv : Value} {e : Expr} {rest : List Expr} {F : EsT} {W : List PV → LH → (PV → LH → Prop) → Prop}
    (hf : NmOk h₀ prog w env (.Name x p) fv) (hk : KprOk h₀ prog w fv) (hes : EsOk h₀ prog w n env (e :: rest) F)
    (hop : ∀ loc Z H s ps vs, Sat h₀ Z env loc H s.heap → VRs Z ps vs → OpOk h₀ prog w n env loc Z H s (call fv vs) (W ps H))
    (hs : starEach (e :: rest) env = (false, eval e env) :: starEach rest env := by rfl) (hp : (backTo pos (starEach rest env)).any (·.1) = false := by rfl)
    (he : eval (.Call (.Name x p) (e :: rest) [] pos) env = (do callWith pos (← eval (.Name x p) env) [] (backTo pos (starEach (e :: rest) env)) (backToKw pos (keywordEach [] env))) := by rfl) :
    EvOk h₀ prog w n env (.Call (.Name x p) (e :: rest) [] pos) (fun σ Q => F σ fun ps H₁ => W ps H₁ Q) := by
  intro A Z loc H s Q Q' E rm S f q
  refine Call_ (hf A Z loc H s _ _ S ?_) he
  refine callWith_ok hk hes rm S f (fun vs ps Z' H' s' k v f' => ?_) hs hp
  exact hop loc Z' H' s' ps vs k.sat v A Q Q' E rm f' fun _ _ _ _ _ k' v' f'' => q _ _ _ _ _ (k.trans k') v' f''
def lenW (a : PV) (H : LH) (Q : Nat → Prop) : Prop :=
  match a with
  | .str x => x.length < 2 ^ 62 ∧ Q x.length
  | a => ∃ xs, lstOf H a = some xs ∧ xs.length < 2 ^ 62 ∧ Q xs.length
def lenOp (ps : List PV) (H : LH) (Q : PV → LH → Prop) : Prop := ∃ a, ps = [a] ∧ lenW a H fun k => Q (.int k) H
theorem len_ok (loc : Loc) (Z : Zm) (H : LH) (s : Shared) (ps : List PV) (vs : List Value) (S : Sat h₀ Z env loc H s.heap) (v : VRs Z ps vs) : OpOk h₀ prog w n env loc Z H s (call (.builtin "len") vs) (lenOp ps H) := by
  rintro A Q Q' E rm ⟨a, rfl, f⟩ q
  cases v with
  | cons va r =>
    cases r
    unfold lenW at f
    split at f
    · cases va with | str _ t => exact P.len_str (by have := f.1; omega) (q _ _ _ _ _ (Ke.toks S _) (.int _ _) f.2)
    · obtain ⟨xs, hx, hsz, f⟩ := f
      obtain ⟨l, vs, rfl, hl, r⟩ := lst_isList S va hx
      refine call_len_list hl (by simp [r.length]; omega) ?_
      rw [List.size_toArray, r.length]
      exact q _ _ _ _ _ (Ke.toks S _) (.int _ _) f
def chrOp (ps : List PV) (H : LH) (Q : PV → LH → Prop) : Prop := ∃ i : Int, ps = [.int i] ∧ 0 ≤ i ∧ i ≤ 0x10FFFF ∧ Q (.str ⟨#[i.toNat]⟩) H
theorem chr_ok (loc : Loc) (Z : Zm) (H : LH) (s : Shared) (ps : List PV) (vs : List Value) (S : Sat h₀ Z env loc H s.heap) (v : VRs Z ps vs) : OpOk h₀ prog w n env loc Z H s (call (.builtin "chr") vs) (chrOp ps H) := by
  rintro A Q Q' E rm ⟨a, rfl, h0, h1, f⟩ q
  cases v with
  | cons va r =>
    cases r
    cases va with
    | int _ t => exact P.chr_of_int (by simp; omega) (q _ _ _ _ _ (Ke.toks S _) (.str _ _) f)
def absOp (ps : List PV) (H : LH) (Q : PV → LH → Prop) : Prop := ∃ i : Int, ps = [.int i] ∧ Q (.int (if i < 0 then -i else i)) H
theorem abs_ok (loc : Loc) (Z : Zm) (H : LH) (s : Shared) (ps : List PV) (vs : List Value) (S : Sat h₀ Z env loc H s.heap) (v : VRs Z ps vs) : OpOk h₀ prog w n env loc Z H s (call (.builtin "abs") vs) (absOp ps H) := by
  rintro A Q Q' E rm ⟨a, rfl, f⟩ q
  cases v with
  | cons va r =>
    cases r
    cases va with
    | int _ t => exact call_abs_int fun u tk => q _ _ _ _ _ (Ke.toks S _) (.int _ u) f
def rangeOp (ps : List PV) (H : LH) (Q : PV → LH → Prop) : Prop :=
  match ps with
  | [.int b] => Q (.rng 0 b 1) H
  | [.int a, .int b] => Q (.rng a b 1) H
  | [.int a, .int b, .int c] => c ≠ 0 ∧ c.natAbs < 1073741824 ∧ Q (.rng a b c) H
  | _ => False
theorem rng_new {loc : Loc} {Z : Zm} {H : LH} {s s' : Shared} {r : Addr} {a b c : Int} {t u v : Tok} {Q : PV → LH → Prop} {Q' : Value → Shared → Prop} (S : Sat h₀ Z env loc H s.heap) (f : Q (.rng a b c) H)
    (q : ∀ v p Z' H' s', Ke h₀ env loc Z H s Z' H' s' → VR Z' p v → Q p H' → Q' v s') (hk : Kp s s') (ha : s.heap.get? r = none) (ho : s'.heap.get? r = some { cls := .type "range", dict := none, data := .fields #[.int a t, .int b u, .int c v], slots := #[] }) : Q' (.ref r) s' := by
  have K := Ke.frozen S hk ha ho
  exact q _ _ _ _ _ K (.rng (Zm.set_self _ _ _)) f
theorem Kp.pushT (s : Shared) (o : Obj) (tk : Nat) : Kp s { s with heap := s.heap.push o, toks := tk } := ⟨_, tk, rfl, fun _ _ e => Heap.get?_push_of_some _ e⟩
theorem range_ok (loc : Loc) (Z : Zm) (H : LH) (s : Shared) (ps : List PV) (vs : List Value) (S : Sat h₀ Z env loc H s.heap) (v : VRs Z ps vs) : OpOk h₀ prog w n env loc Z H s (call (.type "range") vs) (rangeOp ps H) := by
  intro A Q Q' E rm f q
  unfold rangeOp at f
  split at f
  · cases v with
    | cons va r => cases r; cases va with | int _ t => exact call_range_1 (rng_new S f q (Kp.pushT _ _ _) (get_size _) (Heap.get?_push_size _ rfl))
  · cases v with
    | cons va r =>
      cases r with
      | cons vb r => cases r; cases va with | int _ t => cases vb with | int _ u => exact call_range_2 (rng_new S f q (Kp.pushT _ _ _) (get_size _) (Heap.get?_push_size _ rfl))
  · cases v with
    | cons va r =>
      cases r with
      | cons vb r =>
        cases r with
        | cons vc r => cases r; cases va with | int _ t => cases vb with | int _ u => cases vc with | int _ x => exact call_range_3 f.1 (rng_new S f.2.2 q (Kp.pushT _ _ _) (get_size _) (Heap.get?_push_size _ rfl)) (.inl (PyProof.noPylong_small f.2.1))
  · exact f.elim
/-- the things that a loop goes over -/
def rngInts (a b c : Int) : List Int := (List.range (Builtin.Range.rangeSize a b c).toNat).map fun (i : Nat) => a + (i : Int) * c
def strSigns (x : Str) : List PV := x.cps.toList.map fun c => .str ⟨#[c]⟩
def iterOf (H : LH) : PV → Option (List PV)
  | .str x => some (strSigns x)
  | .tup xs => some xs
  | .rng a b c => if Builtin.Range.small a b c then some ((rngInts a b c).map .int) else none
  | a => lstOf H a
/-- a walker over plain items -/
structure Wk (prog : Program) (w : World) (A : Around) (Z : Zm) (xs : List PV) (I : Addr) (fp wr : List Addr) (P : Nat → Value → Prop) (St : Nat → Heap → Prop) : Prop where
  walks : Walks prog w A I fp wr xs.length P St
  item : ∀ i v, P i v → ∃ p, xs[i]? = some p ∧ VR Z p v
theorem iter_ok {A : Around} {loc : Loc} {Z : Zm} {H : LH} {s : Shared} {a : PV} {x : Value} {xs : List PV} {Q' : Value → Shared → Prop} {E : Value → Shared → Prop} (rm : Rm n A) (S : Sat h₀ Z env loc H s.heap) (va : VR Z a x) (e : iterOf H a = some xs)
    (q : ∀ I fp wr P St s', Wk prog w A Z xs I fp wr P St → Kp s s' → St 0 s'.heap → s.heap.get? I = none → (∀ i h, St i h → ∃ o, h.get? I = some o) → wr = [I] → (∀ b ∈ fp, b = I ∨ .ref b = x) → (∀ b ∈ fp, b < s'.heap.objs.size) → Q' (.ref I) s') :
    wpAny (model prog w) A (pyIter x) Q' E s := by
  have fresh := get_size s.heap
  have hlt : ∀ o, s.heap.objs.size < (s.heap.push o).objs.size := fun o => by rw [Heap.size_push]; exact Nat.lt_succ_self _
  have lists : ∀ {l : Addr} {vs : List Value}, x = .ref l → s.heap.IsList l vs.toArray → VRs Z xs vs → wpAny (model prog w) A (pyIter x) Q' E s := by
    intro l vs hx hl r
    subst hx
    refine wpAny_pyIter_list hl ?_
    obtain ⟨ol, hol, _⟩ := id hl
    have hne : l ≠ s.heap.objs.size := Nat.ne_of_lt (Heap.lt_size hol)
    have W := Walks.list (prog := prog) (w := w) rm.hd s.heap.objs.size l hne vs.toArray
    have hn : vs.toArray.size = xs.length := by rw [List.size_toArray, r.length]
    rw [hn] at W
    refine q _ _ _ _ _ _ ⟨W, fun i v hp => r.get' (by simpa using hp)⟩ (Kp.push _ _) ⟨⟨_, Heap.get?_push_size _ rfl, rfl, rfl⟩, hl.at fun o e => Heap.get?_push_of_some _ e⟩ fresh (fun _ _ st => let ⟨o, e, _⟩ := st.1; ⟨o, e⟩) rfl ?_ ?_
    · intro b hb
      rcases List.mem_cons.mp hb with h | h
      · exact .inl h
      · exact .inr (by rw [List.mem_singleton.mp h])
    · intro b hb
      rcases List.mem_cons.mp hb with h | h
      · rw [h]; exact hlt _
      · rw [List.mem_singleton.mp h]; exact Nat.lt_trans (Heap.lt_size hol) (hlt _)
  cases va with
  | str y t =>
    cases e
    have hl : y.cps.size = (strSigns y).length := by simp [strSigns]
    have item : ∀ i v, SignAt y i v → ∃ p, (strSigns y)[i]? = some p ∧ VR Z p v := by
      rintro i v ⟨c, u, hc, rfl⟩
      exact ⟨.str ⟨#[c]⟩, by simp [strSigns, hc], .str _ u⟩
    cases ha : y.cps.all (· < 128) with
    | false =>
      have W := Walks.strWide (prog := prog) (w := w) rm.hd s.heap.objs.size y t
      rw [hl] at W
      exact wpAny_pyIter_wide ha (q _ _ _ _ _ _ ⟨W, item⟩ (Kp.push _ _) ⟨_, Heap.get?_push_size _ rfl, rfl, rfl⟩ fresh (fun _ _ st => let ⟨o, e, _⟩ := st; ⟨o, e⟩) rfl (fun b hb => .inl (List.mem_singleton.mp hb)) fun b hb => by rw [List.mem_singleton.mp hb]; exact hlt _)
    | true =>
      have W := Walks.strAscii (prog := prog) (w := w) rm.hd s.heap.objs.size y t
      rw [hl] at W
      exact wpAny_pyIter_ascii ha (q _ _ _ _ _ _ ⟨W, item⟩ (Kp.push _ _) ⟨_, Heap.get?_push_size _ rfl, rfl, rfl⟩ fresh (fun _ _ st => let ⟨o, e, _⟩ := st; ⟨o, e⟩) rfl (fun b hb => .inl (List.mem_singleton.mp hb)) fun b hb => by rw [List.mem_singleton.mp hb]; exact hlt _)
  | tup z r =>
    rename_i l vs k ys
    cases e
    have ho := S.frz _ _ z
    have hT : s.heap.IsTuple l vs.toArray := ⟨_, ho, rfl, _, rfl⟩
    refine wpAny_pyIter_tuple hT ?_
    have hne : l ≠ s.heap.objs.size := Nat.ne_of_lt (Heap.lt_size ho)
    have W := Walks.tuple (prog := prog) (w := w) rm.hd s.heap.objs.size l hne vs.toArray
    have hn : vs.toArray.size = xs.length := by rw [List.size_toArray, r.length]
    rw [hn] at W
    refine q _ _ _ _ _ _ ⟨W, fun i v hp => r.get' (by simpa using hp)⟩ (Kp.push _ _) ⟨⟨_, Heap.get?_push_size _ rfl, rfl, rfl⟩, hT.at fun o e => Heap.get?_push_of_some _ e⟩ fresh (fun _ _ st => let ⟨o, e, _⟩ := st.1; ⟨o, e⟩) rfl ?_ ?_
    · intro b hb
      rcases List.mem_cons.mp hb with h | h
      · exact .inl h
      · exact .inr (by rw [List.mem_singleton.mp h])
    · intro b hb
      rcases List.mem_cons.mp hb with h | h
      · rw [h]; exact hlt _
      · rw [List.mem_singleton.mp h]; exact Nat.lt_trans (Heap.lt_size ho) (hlt _)
  | rng z =>
    rename_i r a b c t u v
    change (if Builtin.Range.small a b c then some ((rngInts a b c).map PV.int) else none) = some xs at e
    split at e
    · rename_i hsm
      cases e
      have hr : IsRange s.heap r a b c t u v := S.frz _ _ z
      refine wpAny_pyIter_range hr hsm ?_
      have hpos : 0 ≤ Builtin.Range.rangeSize a b c := by
        unfold Builtin.Range.rangeSize
        split
        · split
          · have := Int.ediv_nonneg (a := b - a - 1) (b := c) (by omega) (by omega); omega
          · omega
        · split
          · have := Int.ediv_nonneg (a := a - b - 1) (b := -c) (by omega) (by omega); omega
          · omega
      have W := Walks.range (prog := prog) (w := w) rm.hd s.heap.objs.size a c (Builtin.Range.rangeSize a b c).toNat
      have W' := W.bound
      have hn : (Builtin.Range.rangeSize a b c).toNat = ((rngInts a b c).map PV.int).length := by simp [rngInts]
      rw [hn] at W'
      refine q _ _ _ _ _ _ ⟨W', fun i x hp => ?_⟩ (Kp.push _ _) ?_ fresh (fun _ _ st => ⟨_, st⟩) rfl (fun b hb => .inl (List.mem_singleton.mp hb)) fun b hb => by rw [List.mem_singleton.mp hb]; exact hlt _
      · obtain ⟨hi, t', rfl⟩ := hp
        rw [← hn] at hi
        exact ⟨.int (a + (i : Int) * c), by simp [rngInts, hi], .int _ _⟩
      · show IsRangeIter _ _ _ _ _
        rw [← hn]
        have e1 : ((Builtin.Range.rangeSize a b c).toNat : Int) - ((0 : Nat) : Int) = Builtin.Range.rangeSize a b c := by omega
        have e2 : a + ((0 : Nat) : Int) * c = a := by simp
        rw [e1, e2]
        exact Heap.get?_push_size _ rfl
    · cases e
  | lst z r =>
    cases e
    exact lists rfl ⟨_, S.frz _ _ z, rfl, _, rfl⟩ r
  | ref a =>
    obtain ⟨l, vs, hx, hl, r⟩ := lst_isList S (VR.ref a) e
    exact lists hx hl r
  | _ => cases e
end
end Mine
end
section
namespace Mine
theorem toNat_inj {c d : Char} (h : c.toNat = d.toNat) : c = d := Char.toNat_inj.mp h
theorem map_toNat_inj : ∀ {a b : List Char}, a.map Char.toNat = b.map Char.toNat → a = b
  | [], [], _ => rfl
  | [], _ :: _, h => by cases h
  | _ :: _, [], h => by cases h
  | c :: a, d :: b, h => by
    simp only [List.map_cons, List.cons.injEq] at h
    rw [toNat_inj h.1, map_toNat_inj h.2]
theorem ofString_inj {a b : String} (h : Str.ofString a = Str.ofString b) : a = b := by
  rw [Str.ofString_eq_toList, Str.ofString_eq_toList] at h
  have h1 := congrArg (fun s => s.cps.toList) h
  simp only at h1
  exact String.toList_inj.mp (map_toNat_inj h1)
inductive Fl where
  | next
  | brk
  | cont
  | ret (p : PV)
inductive FlR (Z : Zm) : Fl → Flow → Prop
  | next : FlR Z .next .next
  | brk : FlR Z .brk .brk
  | cont : FlR Z .cont .cont
  | ret {p : PV} {v : Value} : VR Z p v → FlR Z (.ret p) (.ret v)
/-- what a statement leaves -/
structure Sk (h₀ : Heap) (env : Env) (loc : Loc) (Z : Zm) (H : LH) (s : Shared) (loc' : Loc) (Z' : Zm) (H' : LH) (s' : Shared) : Prop where
  sat : Sat h₀ Z' env loc' H' s'.heap
  sh : ∃ h' tk, s' = { s with heap := h', toks := tk }
  frm : ∀ b o, s.heap.get? b = some o → b ≠ env.locals → (∀ n, (n, b) ∉ env.cells) → (∀ xs, H b ≠ some ⟨true, xs⟩) → s'.heap.get? b = some o
  live : ∀ b o, s.heap.get? b = some o → ∃ o', s'.heap.get? b = some o'
  fz : Fresh s Z Z'
  fh : ∀ a l', H' a = some l' → (∃ l, H a = some l ∧ (l'.mu = true → l.mu = true)) ∨ s.heap.get? a = none
section
variable {h₀ : Heap} {env : Env} {loc loc₁ loc₂ : Loc} {Z Z' Z₁ Z₂ : Zm} {H H' H₁ H₂ : LH} {s s' s₁ s₂ : Shared}
theorem Sk.trans (a : Sk h₀ env loc Z H s loc₁ Z₁ H₁ s₁) (b : Sk h₀ env loc₁ Z₁ H₁ s₁ loc₂ Z₂ H₂ s₂) : Sk h₀ env loc Z H s loc₂ Z₂ H₂ s₂ where
  sat := b.sat
  sh := by
    obtain ⟨h, t, rfl⟩ := a.sh
    obtain ⟨h', t', rfl⟩ := b.sh
    exact ⟨h', t', rfl⟩
  frm := fun x o e h1 h2 h3 => b.frm x o (a.frm x o e h1 h2 h3) h1 h2 fun xs hx => by
    rcases a.fh x _ hx with ⟨l, hl, hm⟩ | hn
    · cases l with | mk mu ys => have := hm rfl; simp only at this; subst this; exact h3 ys hl
    · rw [hn] at e; cases e
  live := fun x o e => let ⟨o', e'⟩ := a.live x o e; b.live x o' e'
  fz := ⟨a.fz.1.trans b.fz.1, fun x h h' => by
    cases q : Z₁ x with
    | none =>
      have := b.fz.2 x q h'
      cases r : s.heap.get? x with
      | none => rfl
      | some o => obtain ⟨o', e'⟩ := a.live x o r; rw [this] at e'; cases e'
    | some o => exact a.fz.2 x h (by rw [q]; exact Option.some_ne_none o)⟩
  fh := fun x l' e => by
    rcases b.fh x l' e with ⟨l, hl, hm⟩ | hn
    · rcases a.fh x l hl with ⟨l₀, hl₀, hm₀⟩ | hn
      · exact .inl ⟨l₀, hl₀, fun h => hm₀ (hm h)⟩
      · exact .inr hn
    · refine .inr ?_
      cases r : s.heap.get? x with
      | none => rfl
      | some o => obtain ⟨o', e'⟩ := a.live x o r; rw [hn] at e'; cases e'
theorem Ke.sk (k : Ke h₀ env loc Z H s Z' H' s') : Sk h₀ env loc Z H s loc Z' H' s' where
  sat := k.sat
  sh := let ⟨h, t, e, _⟩ := k.kp; ⟨h, t, e⟩
  frm := fun _ _ e _ _ _ => k.kp.get e
  live := fun _ o e => ⟨o, k.kp.get e⟩
  fz := k.fz
  fh := fun a l' e => by
    cases q : H a with
    | none => exact .inr (k.fh.2 a q (by rw [e]; exact Option.some_ne_none _))
    | some l => rw [k.fh.1 a l q] at e; cases e; exact .inl ⟨_, rfl, fun h => h⟩
theorem Sk.refl (S : Sat h₀ Z env loc H s.heap) : Sk h₀ env loc Z H s loc Z H s := (Ke.refl S).sk
end
abbrev XT := St → (Fl → St → Prop) → Prop
def ExOk (h₀ : Heap) (prog : Program) (w : World) (n : Nat) (env : Env) (st : Stmt) (F : XT) : Prop :=
  ∀ (A : Around) (Z : Zm) (loc : Loc) (H : LH) (s : Shared) (Q : Fl → St → Prop) (Q' : Flow → Shared → Prop) (E : Value → Shared → Prop),
    Rm n A → Sat h₀ Z env loc H s.heap → F ⟨loc, H⟩ Q →
    (∀ fl p loc' Z' H' s', Sk h₀ env loc Z H s loc' Z' H' s' → FlR Z' p fl → Q p ⟨loc', H'⟩ → Q' fl s') → wpAny (model prog w) A (exec st env) Q' E s
def XsOk (h₀ : Heap) (prog : Program) (w : World) (n : Nat) (env : Env) (sts : List Stmt) (F : XT) : Prop :=
  ∀ (A : Around) (Z : Zm) (loc : Loc) (H : LH) (s : Shared) (Q : Fl → St → Prop) (Q' : Flow → Shared → Prop) (E : Value → Shared → Prop),
    Rm n A → Sat h₀ Z env loc H s.heap → F ⟨loc, H⟩ Q →
    (∀ fl p loc' Z' H' s', Sk h₀ env loc Z H s loc' Z' H' s' → FlR Z' p fl → Q p ⟨loc', H'⟩ → Q' fl s') → wpAny (model prog w) A (execs sts env) Q' E s
section
variable {h₀ : Heap} {prog : Program} {w : World} {n : Nat} {env : Env}
theorem xs_nil : XsOk h₀ prog w n env [] (fun σ Q => Q .next σ) := fun _ _ _ _ _ _ _ _ _ S f q => wpAny_execs_nil (q _ _ _ _ _ _ (Sk.refl S) .next f)
theorem xs_cons {st : Stmt} {rest : List Stmt} {fs fr : XT} (hs : ExOk h₀ prog w n env st fs) (hr : XsOk h₀ prog w n env rest fr) :
    XsOk h₀ prog w n env (st :: rest) (fun σ Q => fs σ fun fl σ₁ => match fl with | .next => fr σ₁ Q | fl => Q fl σ₁) := by
  intro A Z loc H s Q Q' E rm S f q
  refine wpAny_execs_cons (hs A Z loc H s _ _ _ rm S f fun fl p loc₁ Z₁ H₁ s₁ k₁ vf f₁ => ?_)
  cases vf with
  | next => exact hr A Z₁ loc₁ H₁ s₁ Q Q' E rm k₁.sat f₁ fun _ _ _ _ _ _ k v f => q _ _ _ _ _ _ (k₁.trans k) v f
  | brk => exact q _ _ _ _ _ _ k₁ .brk f₁
  | cont => exact q _ _ _ _ _ _ k₁ .cont f₁
  | ret v => exact q _ _ _ _ _ _ k₁ (.ret v) f₁
/-- a name stored -/
theorem store_ok {A : Around} {Z : Zm} {loc : Loc} {H : LH} {s : Shared} {x : String} {p : PV} {v : Value} {Q' : Unit → Shared → Prop} {E : Value → Shared → Prop} (S : Sat h₀ Z env loc H s.heap) (hv : VR Z p v)
    (hk : env.kindOf (Str.ofString x) = some .local ∨ (env.kindOf (Str.ofString x) = some .cell ∧ (env.cells.lookup (Str.ofString x)).isSome = true))
    (q : ∀ s', Sk h₀ env loc Z H s (loc.set x p) Z H s' → Q' () s') : wpAny (model prog w) A (storeName env (Str.ofString x) v) Q' E s := by
  obtain ⟨m, hm, hl⟩ := S.ns
  obtain ⟨oL, eL⟩ := S.nsAt
  have neZ : ∀ {a : Addr} {o : Obj}, Z a = some o → a ≠ env.locals := fun {a o} e h => by rw [h, S.nsZ] at e; cases e
  have neC : ∀ {n : Str} {c : Addr}, (n, c) ∈ env.cells → c ≠ env.locals := fun {n c} hc h => by
    obtain ⟨_, w, o, e, d⟩ := S.cellZ n c hc
    obtain ⟨o', es, ep, e', d', _⟩ := hm
    rw [h, e'] at e; cases e; rw [d'] at d; cases d
  have neH : ∀ {a : Addr} {l : LO}, H a = some l → a ≠ env.locals := fun {a l} e h => by
    obtain ⟨_, vs, k, e', _⟩ := S.obj a l e
    obtain ⟨o', es, ep, e'', d', _⟩ := hm
    rw [h, e''] at e'; cases e'; cases d'
  rcases hk with hk | ⟨hk, hc⟩
  · refine wpAny_storeName_local hk hm (fun h' hn hs => q _ ⟨⟨S.base, ?_, S.nsZ, ?_, S.cellN, S.kind, ⟨_, hn, ?_⟩, ?_⟩, ⟨h', _, rfl⟩, ?_, ?_, Fresh.refl s Z, fun a l' e => .inl ⟨l', e, fun h => h⟩⟩) (by rw [S.kind]; rfl)
    · exact fun a o e => (hs.2 a (neZ e)).trans (S.frz a o e)
    · intro n c hm'
      obtain ⟨z, w', o, e, d⟩ := S.cellZ n c hm'
      exact ⟨z, w', o, (hs.2 c (neC hm')).trans e, d⟩
    · intro y p' e
      by_cases hy : y = x
      · subst hy
        rw [Loc.set_self] at e; cases e
        exact .loc v hk (by simp) hv
      · rw [Loc.set_ne _ _ hy] at e
        cases hl y p' e with
        | loc v' a b c => exact .loc v' a (by rw [if_neg fun h => hy (ofString_inj h)]; exact b) c
        | cell c v' a b d g =>
          have hmem : (Str.ofString y, c) ∈ env.cells := by
            obtain ⟨l1, l2, h1, _⟩ := List.lookup_eq_some_iff.mp b
            rw [h1]; simp
          exact .cell c v' a b (d.sameBut hs (neC hmem)) g
    · intro a l e
      obtain ⟨z, vs, k, e', r⟩ := S.obj a l e
      exact ⟨z, vs, k, (hs.2 a (neH e)).trans e', r⟩
    · exact fun b o e h1 _ _ => (hs.2 b h1).trans e
    · intro b o e
      by_cases hb : b = env.locals
      · subst hb
        obtain ⟨o', _, _, e', _⟩ := hn
        exact ⟨o', e'⟩
      · exact ⟨o, (hs.2 b hb).trans e⟩
  · obtain ⟨c, hc⟩ := Option.isSome_iff_exists.mp hc
    have hmem : (Str.ofString x, c) ∈ env.cells := by
      obtain ⟨l1, l2, h1, _⟩ := List.lookup_eq_some_iff.mp hc
      rw [h1]; simp
    obtain ⟨zc, w₀, hw⟩ := S.cellZ _ _ hmem
    have ec := hw
    obtain ⟨oc, eoc, doc⟩ := hw
    have nZ : ∀ {a : Addr} {o : Obj}, Z a = some o → a ≠ c := fun {a o} e h => by rw [h, zc] at e; cases e
    have nH : ∀ {a : Addr} {l : LO}, H a = some l → a ≠ c := fun {a l} e h => by
      obtain ⟨_, vs, k, e', _⟩ := S.obj a l e
      rw [h, eoc] at e'; cases e'; cases doc
    have uniq : ∀ {n : Str}, (n, c) ∈ env.cells → n = Str.ofString x := fun {n} hn => by
      have nd := S.cellN
      have : ∀ {l : List (Str × Addr)}, (l.map (·.2)).Nodup → (n, c) ∈ l → (Str.ofString x, c) ∈ l → n = Str.ofString x := by
        intro l
        induction l with
        | nil => intro _ h _; cases h
        | cons a r ih =>
          intro nd h1 h2
          simp only [List.map_cons, List.nodup_cons] at nd
          rcases List.mem_cons.mp h1 with e1 | h1
          · rcases List.mem_cons.mp h2 with e2 | h2
            · rw [← e1] at e2; exact (congrArg Prod.fst e2).symm
            · exact absurd (List.mem_map.mpr ⟨_, h2, by rw [← e1]⟩) nd.1
          · rcases List.mem_cons.mp h2 with e2 | h2
            · exact absurd (List.mem_map.mpr ⟨_, h1, by rw [← e2]⟩) nd.1
            · exact ih nd.2 h1 h2
      exact this nd hn hmem
    refine wpAny_storeName_cell S.kind hk hc ec fun h' hn hs => q _ ⟨⟨S.base, ?_, S.nsZ, ?_, S.cellN, S.kind, ⟨m, hm.sameBut hs (Ne.symm (neC hmem)), ?_⟩, ?_⟩, ⟨h', s.toks, rfl⟩, ?_, ?_, Fresh.refl s Z, fun a l' e => .inl ⟨l', e, fun h => h⟩⟩
    · exact fun a o e => (hs.2 a (nZ e)).trans (S.frz a o e)
    · intro n c' hm'
      by_cases hcc : c' = c
      · subst hcc; exact ⟨zc, _, hn⟩
      · obtain ⟨z, w', o, e, d⟩ := S.cellZ n c' hm'
        exact ⟨z, w', o, (hs.2 c' hcc).trans e, d⟩
    · intro y p' e
      by_cases hy : y = x
      · subst hy
        rw [Loc.set_self] at e; cases e
        exact .cell c v (.inl hk) hc hn hv
      · rw [Loc.set_ne _ _ hy] at e
        cases hl y p' e with
        | loc v' a b c => exact .loc v' a b c
        | cell c' v' a b d g =>
          have hmem' : (Str.ofString y, c') ∈ env.cells := by
            obtain ⟨l1, l2, h1, _⟩ := List.lookup_eq_some_iff.mp b
            rw [h1]; simp
          have hne : c' ≠ c := fun h => hy (ofString_inj (uniq (h ▸ hmem')))
          exact .cell c' v' a b (d.sameBut hs hne) g
    · intro a l e
      obtain ⟨z, vs, k, e', r⟩ := S.obj a l e
      exact ⟨z, vs, k, (hs.2 a (nH e)).trans e', r⟩
    · exact fun b o e _ h2 _ => (hs.2 b fun h => h2 _ (h ▸ hmem)).trans e
    · intro b o e
      by_cases hb : b = c
      · subst hb
        obtain ⟨o', e', _⟩ := hn
        exact ⟨o', e'⟩
      · exact ⟨o, (hs.2 b hb).trans e⟩
end
end Mine
end
section
namespace Mine
/-- where a name of the frame's is kept -/
def Stores (env : Env) (x : String) : Prop := env.kindOf (Str.ofString x) = some .local ∨ (env.kindOf (Str.ofString x) = some .cell ∧ (env.cells.lookup (Str.ofString x)).isSome = true)
section
variable {h₀ : Heap} {prog : Program} {w : World} {n : Nat} {env : Env}
theorem st_assign {x : String} {pos' pos : Pos} {e : Expr} {fe : ET} (he : EvOk h₀ prog w n env e fe) (hk : Stores env x)
    (hs : swapsWith e (some (.Name (Str.ofString x) pos')) pos.line env = pure false := by rfl) :
    ExOk h₀ prog w n env (.Assign [.Name (Str.ofString x) pos'] e pos) (fun σ Q => fe σ fun a H₁ => Q .next ⟨σ.loc.set x a, H₁⟩) := by
  intro A Z loc H s Q Q' E rm S f q
  refine wpAny_Assign_Name (he A Z loc H s _ _ _ rm S f fun v a Z₁ H₁ s₁ k₁ va f₁ => ?_) hs
  exact store_ok k₁.sat va hk fun s' k₂ => q _ _ _ _ _ _ (k₁.sk.trans k₂) .next f₁
theorem st_aug {x : String} {pos' pos : Pos} {op : Operator} {e : Expr} {fe : ET} (he : EvOk h₀ prog w n env e fe) (hk : Stores env x) (hn : (Str.ofString x == ("__classdict__" : Str)) = false) :
    ExOk h₀ prog w n env (.AugAssign (.Name (Str.ofString x) pos') op e pos) (fun σ Q => getW (σ.loc x) fun a => fe σ fun b H₁ => inW op a b H₁ fun c H₂ => Q .next ⟨σ.loc.set x c, H₂⟩) := by
  intro A Z loc H s Q Q' E rm S f q
  obtain ⟨p, e, f⟩ := f
  refine wpAny_AugAssign_Name (load_ok S e (fun v hv => ?_) hn)
  refine he A Z loc H s _ _ _ rm S f fun y b Z₁ H₁ s₁ k₁ vb f₁ => ?_
  refine in_ok op loc Z₁ H₁ s₁ p b v y k₁.sat (hv.mono k₁.fz.1) vb A _ _ _ rm f₁ fun z c Z₂ H₂ s₂ k₂ vc f₂ => ?_
  exact store_ok k₂.sat vc hk fun s' k₃ => q _ _ _ _ _ _ ((k₁.trans k₂).sk.trans k₃) .next f₂
theorem st_if {t : Expr} {b o : List Stmt} {pos : Pos} {ft : BT} {fb fo : XT} (ht : BtOk h₀ prog w n env t ft) (hb : XsOk h₀ prog w n env b fb) (ho : XsOk h₀ prog w n env o fo) :
    ExOk h₀ prog w n env (.If t b o pos) (fun σ Q => ft σ fun c H₁ => if c then fb ⟨σ.loc, H₁⟩ Q else fo ⟨σ.loc, H₁⟩ Q) := by
  intro A Z loc H s Q Q' E rm S f q
  refine wpAny_If (ht A Z loc H s _ _ _ rm S f fun c Z₁ H₁ s₁ k₁ f₁ => ?_)
  cases c with
  | true => exact hb A Z₁ loc H₁ s₁ Q Q' E rm k₁.sat f₁ fun _ _ _ _ _ _ k v f => q _ _ _ _ _ _ (k₁.sk.trans k) v f
  | false => exact ho A Z₁ loc H₁ s₁ Q Q' E rm k₁.sat f₁ fun _ _ _ _ _ _ k v f => q _ _ _ _ _ _ (k₁.sk.trans k) v f
theorem st_ret {e : Expr} {pos : Pos} {fe : ET} (he : EvOk h₀ prog w n env e fe) : ExOk h₀ prog w n env (.Return (some e) pos) (fun σ Q => fe σ fun a H₁ => Q (.ret a) ⟨σ.loc, H₁⟩) := by
  intro A Z loc H s Q Q' E rm S f q
  exact wpAny_Return_some (he A Z loc H s _ _ _ rm S f fun v a Z₁ H₁ s₁ k₁ va f₁ => q _ _ _ _ _ _ k₁.sk (.ret va) f₁)
theorem st_ret0 {pos : Pos} : ExOk h₀ prog w n env (.Return none pos) (fun σ Q => Q (.ret .none) σ) :=
  fun _ _ _ _ _ _ _ _ _ S f q => wpAny_Return_none (q _ _ _ _ _ _ (Sk.refl S) (.ret .none) f)
/-- while: k turns at most -/
def whileW (ft : BT) (fb : XT) : Nat → St → (Fl → St → Prop) → Prop
  | 0, _, _ => False
  | k + 1, σ, Q => ft σ fun c H₁ => if c then fb ⟨σ.loc, H₁⟩ fun fl σ' => match fl with
      | .next => whileW ft fb k σ' Q
      | .cont => whileW ft fb k σ' Q
      | .brk => Q .next σ'
      | .ret p => Q (.ret p) σ'
    else Q .next ⟨σ.loc, H₁⟩
theorem st_while {t : Expr} {b : List Stmt} {pos : Pos} {ft : BT} {fb : XT} (ht : BtOk h₀ prog w n env t ft) (hb : XsOk h₀ prog w n env b fb) :
    ExOk h₀ prog w n env (.While t b [] pos) (fun σ Q => ∃ k, whileW ft fb k σ Q) := by
  rintro A Z loc H s Q Q' E rm S ⟨k, f⟩ q
  refine wpAny_While ?_
  refine codeAny_whileLoop (R := fun r s' => match r with | .ok f => Q' f s' | .error e => cameBackBy (model prog w) A env E e s')
    (fun k' s' => ∃ loc' Z' H', Sk h₀ env loc Z H s loc' Z' H' s' ∧ whileW ft fb k' ⟨loc', H'⟩ Q) ?_ k ⟨loc, Z, H, Sk.refl S, f⟩
  rintro k' s' ⟨loc', Z', H', K, f'⟩
  cases k' with
  | zero => exact f'.elim
  | succ k' =>
    refine ht A Z' loc' H' s' _ _ _ rm K.sat f' fun c Z₁ H₁ s₁ k₁ f₁ => ?_
    have K₁ := K.trans k₁.sk
    cases c with
    | true =>
      refine hb A Z₁ loc' H₁ s₁ _ _ _ rm k₁.sat f₁ fun fl p loc₂ Z₂ H₂ s₂ k₂ vf f₂ => ?_
      cases vf with
      | next => exact ⟨k', Nat.lt_succ_self _, loc₂, Z₂, H₂, K₁.trans k₂, f₂⟩
      | cont => exact ⟨k', Nat.lt_succ_self _, loc₂, Z₂, H₂, K₁.trans k₂, f₂⟩
      | brk => exact q _ _ _ _ _ _ (K₁.trans k₂) .next f₂
      | ret v => exact q _ _ _ _ _ _ (K₁.trans k₂) (.ret v) f₂
    | false => exact wpAny_execs_nil (q _ _ _ _ _ _ K₁ .next f₁)
/-- for: the items one by one; what is done with an item ahead of the body -/
def forW (fa : PV → St → (St → Prop) → Prop) (fb : XT) : List PV → St → (Fl → St → Prop) → Prop
  | [], σ, Q => Q .next σ
  | p :: r, σ, Q => fa p σ fun σ₁ => fb σ₁ fun fl σ' => match fl with
      | .next => forW fa fb r σ' Q
      | .cont => forW fa fb r σ' Q
      | .brk => Q .next σ'
      | .ret p => Q (.ret p) σ'
/-- an item assigned -/
def AsOk (h₀ : Heap) (prog : Program) (w : World) (env : Env) (t : Expr) (fa : PV → St → (St → Prop) → Prop) : Prop :=
  ∀ (A : Around) (Z : Zm) (loc : Loc) (H : LH) (s : Shared) (p : PV) (v : Value) (Q : St → Prop) (Q' : Unit → Shared → Prop) (E : Value → Shared → Prop),
    A.handled = none → Sat h₀ Z env loc H s.heap → VR Z p v → fa p ⟨loc, H⟩ Q → (∀ loc' Z' H' s', Sk h₀ env loc Z H s loc' Z' H' s' → Q ⟨loc', H'⟩ → Q' () s') → wpAny (model prog w) A (assign t env v) Q' E s
theorem as_name {x : String} {pos : Pos} (hk : Stores env x) : AsOk h₀ prog w env (.Name (Str.ofString x) pos) (fun p σ Q => Q ⟨σ.loc.set x p, σ.H⟩) :=
  fun A Z loc H s p v Q Q' E hh S hv f q => wpAny_assign_Name (store_ok S hv hk fun s' k => q _ _ _ _ k f)
/-- is a list that may be changed gone over? -/
def iterOk : PV → Prop
  | .ref _ => False
  | _ => True
theorem mem_of_lookup {l : List (Str × Addr)} {x : Str} {c : Addr} (h : l.lookup x = some c) : (x, c) ∈ l := by
  obtain ⟨l1, l2, h1, _⟩ := List.lookup_eq_some_iff.mp h
  rw [h1]; simp
/-- a walker goes one on -/
theorem Sk.walk {loc loc' : Loc} {Z Z' : Zm} {H H' : LH} {s s' : Shared} {I : Addr} {h' : Heap} {tk : Nat} (K : Sk h₀ env loc Z H s loc' Z' H' s') (S : Sat h₀ Z env loc H s.heap)
    (hk : ∀ b o, b ≠ I → s'.heap.get? b = some o → h'.get? b = some o) (hI : s.heap.get? I = none) (hZ : Z' I = none) (hH : H' I = none) : Sk h₀ env loc Z H s loc' Z' H' { s' with heap := h', toks := tk } := by
  have iL : env.locals ≠ I := fun h => by
    obtain ⟨oL, eL⟩ := S.nsAt
    rw [h, hI] at eL; cases eL
  have iC : ∀ m c, (m, c) ∈ env.cells → c ≠ I := fun m c hm h => by
    obtain ⟨_, _, oc, ec, _⟩ := S.cellZ m c hm
    rw [h, hI] at ec; cases ec
  have iZ : ∀ a o, Z' a = some o → a ≠ I := fun a o e h => by rw [h, hZ] at e; cases e
  have iH : ∀ a l, H' a = some l → a ≠ I := fun a l e h => by rw [h, hH] at e; cases e
  have i0 : ∀ a o, s.heap.get? a = some o → a ≠ I := fun a o e h => by rw [h, hI] at e; cases e
  have S' := K.sat
  refine ⟨⟨S'.base, fun a o e => hk a o (iZ a o e) (S'.frz a o e), S'.nsZ, fun m c hm => ?_, S'.cellN, S'.kind, ?_, fun a l e => ?_⟩, ?_, ?_, ?_, K.fz, K.fh⟩
  · obtain ⟨z, w', o, e, d⟩ := S'.cellZ m c hm
    exact ⟨z, w', o, hk c o (iC m c hm) e, d⟩
  · obtain ⟨m, hm, hl⟩ := S'.ns
    refine ⟨m, hm.at' fun o e => hk _ o iL e, fun y p e => ?_⟩
    cases hl y p e with
    | loc v a b c => exact .loc v a b c
    | cell c v a b d g =>
      obtain ⟨o, eo, d'⟩ := d
      exact .cell c v a b ⟨o, hk c o (iC _ c (mem_of_lookup b)) eo, d'⟩ g
  · obtain ⟨z, vs, k, e', r⟩ := S'.obj a l e
    exact ⟨z, vs, k, hk a _ (iH a l e) e', r⟩
  · obtain ⟨h, t, rfl⟩ := K.sh
    exact ⟨h', tk, rfl⟩
  · exact fun b o e h1 h2 h3 => hk b o (i0 b o e) (K.frm b o e h1 h2 h3)
  · intro b o e
    obtain ⟨o', e'⟩ := K.live b o e
    exact ⟨o', hk b o' (i0 b o e) e'⟩
theorem Sk.noZ {loc loc' : Loc} {Z Z' : Zm} {H H' : LH} {s s' : Shared} {I : Addr} {o : Obj} (K : Sk h₀ env loc Z H s loc' Z' H' s') (e : s.heap.get? I = some o) (hZ : Z I = none) : Z' I = none := by
  cases q : Z' I with
  | none => rfl
  | some o' => have := K.fz.2 I hZ (by rw [q]; exact Option.some_ne_none _); rw [e] at this; cases this
theorem Sk.noH {loc loc' : Loc} {Z Z' : Zm} {H H' : LH} {s s' : Shared} {I : Addr} {o : Obj} (K : Sk h₀ env loc Z H s loc' Z' H' s') (e : s.heap.get? I = some o) (hH : H I = none) : H' I = none := by
  cases q : H' I with
  | none => rfl
  | some l =>
    rcases K.fh I l q with ⟨l', hl, _⟩ | hn
    · rw [hH] at hl; cases hl
    · rw [e] at hn; cases hn
theorem st_for {t it : Expr} {b : List Stmt} {pos : Pos} {fi : ET} {fa : PV → St → (St → Prop) → Prop} {fb : XT} (hi : EvOk h₀ prog w n env it fi) (ha : AsOk h₀ prog w env t fa) (hb : XsOk h₀ prog w n env b fb)
    (hs : ∀ x, foldedSetIterable it env x = pure x := by intro _; rfl) (ht : ∀ i v, letOwnedTupleGo t i v = pure () := by intro _ _; rfl) :
    ExOk h₀ prog w n env (.For t it b [] pos) (fun σ Q => fi σ fun a H₁ => ∃ xs, iterOk a ∧ iterOf H₁ a = some xs ∧ forW fa fb xs ⟨σ.loc, H₁⟩ Q) := by
  intro A Z loc H s Q Q' E rm S f q
  refine wpAny_For (hi A Z loc H s _ _ _ rm S f fun x a Z₁ H₁ s₁ k₁ va f₁ => ?_) hs
  obtain ⟨xs, hok, hit, f₁⟩ := f₁
  refine iter_ok rm k₁.sat va hit fun I fp wr P St s₂ Wk kp hst hI hlive hwr hfp hfl => ?_
  have hIs : s.heap.get? I = none := k₁.kp.none hI
  have k₂ := k₁.trans (Ke.keep k₁.sat kp)
  have hZ₁ : Z₁ I = none := by
    cases q1 : Z₁ I with
    | none => rfl
    | some o => have := k₁.sat.frz I o q1; rw [hI] at this; cases this
  have hH₁ : H₁ I = none := by
    cases q1 : H₁ I with
    | none => rfl
    | some l => obtain ⟨_, _, _, e, _⟩ := k₁.sat.obj I l q1; rw [hI] at e; cases e
  have iL : I ≠ env.locals := fun h => by
    obtain ⟨oL, eL⟩ := S.nsAt
    rw [← h, hIs] at eL; cases eL
  have iC : ∀ m, (m, I) ∉ env.cells := fun m hm => by
    obtain ⟨_, _, oc, ec, _⟩ := S.cellZ m I hm
    rw [hIs] at ec; cases ec
  have nI : ∀ b, b ≠ I → b ∉ wr := fun b hb hm => by rw [hwr] at hm; exact hb (List.mem_singleton.mp hm)
  have frozen : ∀ b ∈ fp, b ≠ I → ∃ o, Z₁ b = some o := fun b hb hne => by
    rcases hfp b hb with h | h
    · exact absurd h hne
    · cases va with
      | tup z r => cases h; exact ⟨_, z⟩
      | lst z r => cases h; exact ⟨_, z⟩
      | rng z => cases h; exact ⟨_, z⟩
      | ref a => exact hok.elim
      | raw v => cases hit
      | obj z _ _ => cases hit
      | _ => cases h
  refine codeAny_forLoop (R := fun r s' => match r with | .ok f => Q' f s' | .error e => cameBackBy (model prog w) A env E e s')
    (fun k s' => ∃ i loc' Z' H', Sk h₀ env loc Z H s loc' Z' H' s' ∧ St i s'.heap ∧ Z' I = none ∧ H' I = none ∧ Zle Z₁ Z' ∧ i ≤ xs.length ∧ k = xs.length - i ∧ forW fa fb (xs.drop i) ⟨loc', H'⟩ Q) ?_ xs.length
    ⟨0, loc, Z₁, H₁, k₂.sk, hst, hZ₁, hH₁, Zle.refl _, Nat.zero_le _, rfl, f₁⟩ (fun v => ht _ v)
  rintro k s' ⟨i, loc', Z', H', K, hst', hZ', hH', hle, hi, rfl, f'⟩
  by_cases hlt : i < xs.length
  · refine Wk.walks.item i s' _ _ hlt hst' fun v h' tk hP hst₁ hk₁ => ?_
    obtain ⟨p, hp, vp⟩ := Wk.item i v hP
    have K₁ : Sk h₀ env loc Z H s loc' Z' H' { s' with heap := h', toks := tk } := K.walk S (fun b o hb e => hk₁ b o (nI b hb) e) hIs hZ' hH'
    have hd : xs.drop i = p :: xs.drop (i + 1) := by
      rw [List.drop_eq_getElem_cons hlt]
      congr 1
      have := List.getElem?_eq_getElem hlt
      rw [this] at hp; exact Option.some.inj hp
    rw [hd] at f'
    obtain ⟨oI, eI⟩ := hlive _ _ hst₁
    refine ha A Z' loc' H' _ p v _ _ _ rm.hd K₁.sat (vp.mono hle) f' fun loc₂ Z₂ H₂ s₂' k₃ f₂ => ?_
    refine hb A Z₂ loc₂ H₂ s₂' _ _ _ rm k₃.sat f₂ fun fl p' loc₃ Z₃ H₃ s₃ k₄ vf f₃ => ?_
    have K₂ := k₃.trans k₄
    have K₃ := K₁.trans K₂
    have goOn : forW fa fb (xs.drop (i + 1)) ⟨loc₃, H₃⟩ Q → ∃ m, m < xs.length - i ∧ ∃ i loc' Z' H', Sk h₀ env loc Z H s loc' Z' H' s₃ ∧ St i s₃.heap ∧ Z' I = none ∧ H' I = none ∧ Zle Z₁ Z' ∧ i ≤ xs.length ∧ m = xs.length - i ∧ forW fa fb (xs.drop i) ⟨loc', H'⟩ Q := fun ff => by
      refine ⟨xs.length - (i + 1), by omega, i + 1, loc₃, Z₃, H₃, K₃, ?_, K₂.noZ eI hZ', K₂.noH eI hH', hle.trans K₂.fz.1, hlt, rfl, ff⟩
      refine Wk.walks.frame (i + 1) h' s₃.heap hst₁ fun b hb' o e => ?_
      by_cases hbI : b = I
      · subst hbI
        refine K₂.frm b o e iL iC fun ys hy => ?_
        rw [hH'] at hy; cases hy
      · obtain ⟨o', hz⟩ := frozen b hb' hbI
        have e1 := K₁.sat.frz b o' (hle b o' hz)
        have e2 : h'.get? b = some o' := e1
        have e3 : o' = o := Option.some.inj (e2.symm.trans e)
        exact e3 ▸ K₂.sat.frz b o' (K₂.fz.1 b o' (hle b o' hz))
    cases vf with
    | next => exact goOn f₃
    | cont => exact goOn f₃
    | brk => exact q _ _ _ _ _ _ K₃ .next f₃
    | ret v => exact q _ _ _ _ _ _ K₃ (.ret v) f₃
  · have hin : i = xs.length := by omega
    subst hin
    refine Wk.walks.done s' _ _ hst' fun h' tk hk₁ => wpAny_execs_nil ?_
    have K₁ : Sk h₀ env loc Z H s loc' Z' H' { s' with heap := h', toks := tk } := K.walk S (fun b o hb e => hk₁ b o (nI b hb) e) hIs hZ' hH'
    rw [List.drop_length] at f'
    exact q _ _ _ _ _ _ K₁ .next f'
end
end Mine
end
section
namespace Mine
theorem bindL_mem {kindOf : Str → Option NameKind} {x : Str} {v : Value} (hk : kindOf x = some .local) : ∀ {binds : List (Str × Value)} {m : Str → Option Value}, (binds.map (·.1)).Nodup → ((x, v) ∈ binds ∨ (m x = some v ∧ x ∉ binds.map (·.1))) → bindL kindOf binds m x = some v
  | [], m, _, h => by
    rcases h with h | h
    · cases h
    · exact h.1
  | (n, u) :: r, m, nd, h => by
    simp only [List.map_cons, List.nodup_cons] at nd
    unfold bindL
    refine bindL_mem hk nd.2 ?_
    rcases h with h | ⟨h1, h2⟩
    · rcases List.mem_cons.mp h with e | h
      · cases e
        refine .inr ⟨?_, nd.1⟩
        rw [if_pos hk]; simp
      · exact .inl h
    · simp only [List.map_cons, List.mem_cons, not_or] at h2
      refine .inr ⟨?_, h2.2⟩
      split
      · simp only [if_neg h2.1]; exact h1
      · exact h1
theorem bindC_mem {kindOf : Str → Option NameKind} {x : Str} {v : Value} (hk : kindOf x ≠ some .local) : ∀ {binds : List (Str × Value)} {m : Str → Option Value}, (binds.map (·.1)).Nodup → ((x, v) ∈ binds ∨ (m x = some v ∧ x ∉ binds.map (·.1))) → bindC kindOf binds m x = some v
  | [], m, _, h => by
    rcases h with h | h
    · cases h
    · exact h.1
  | (n, u) :: r, m, nd, h => by
    simp only [List.map_cons, List.nodup_cons] at nd
    unfold bindC
    refine bindC_mem hk nd.2 ?_
    rcases h with h | ⟨h1, h2⟩
    · rcases List.mem_cons.mp h with e | h
      · cases e
        refine .inr ⟨?_, nd.1⟩
        rw [if_neg hk]; simp
      · exact .inl h
    · simp only [List.map_cons, List.mem_cons, not_or] at h2
      refine .inr ⟨?_, h2.2⟩
      split
      · exact h1
      · simp only [if_neg h2.1]; exact h1
/-- the parameters' names and their values -/
def argLoc : List String → List PV → Loc
  | x :: xs, p :: ps => fun y => if y = x then some p else argLoc xs ps y
  | _, _ => fun _ => none
theorem argLoc_some : ∀ {names : List String} {ps : List PV} {vs : List Value} {Z : Zm} {y : String} {p : PV}, VRs Z ps vs → argLoc names ps y = some p → ∃ v, (Str.ofString y, v) ∈ (names.map Str.ofString).zip vs ∧ VR Z p v
  | [], _, _, _, _, _, _, h => by cases h
  | _ :: _, [], _, _, _, _, _, h => by cases h
  | x :: xs, q :: ps, _, Z, y, p, .cons hv hr, h => by
    unfold argLoc at h
    by_cases e : y = x
    · rw [if_pos e] at h; cases h
      exact ⟨_, by rw [e]; exact List.mem_cons_self, hv⟩
    · rw [if_neg e] at h
      obtain ⟨v, hm, hv'⟩ := argLoc_some hr h
      exact ⟨v, List.mem_cons_of_mem _ hm, hv'⟩
theorem zip_fst_sublist {α β : Type} : ∀ (xs : List α) (vs : List β), List.Sublist ((xs.zip vs).map (·.1)) xs
  | [], _ => by simp
  | x :: xs, [] => by simp
  | x :: xs, v :: vs => by simp only [List.zip_cons_cons, List.map_cons]; exact (zip_fst_sublist xs vs).cons₂ x
section
variable {K : Frag} {h₀ : Heap} {prog : Program} {w : World} {n : Nat} {env : Env}
/-- a def's body is entered -/
theorem enter_ok {A : Around} {Z : Zm} {loc : Loc} {H : LH} {s : Shared} {R : Result → Shared → Prop} {name qual : Str} {params : Arguments} {body : List Stmt} {scope : Scope} {dV kV doc pm cdv ct oc : Value} {an od : Option Addr} {osl : Array (Option Value)} {f : Addr}
    {names : List String} {ps : List PV} {vs : List Value} (H₀ : LH)
    (G : Gr K h₀) (ho : K.lookup f = some ⟨oc, od, .func (fnOf name qual params body scope dV kV doc pm an cdv ct), osl⟩) (hcd : codeIn K cdv qual = true)
    (hco : scope.isCoroutine = false) (hgen : scope.isGenerator = false) (hk : scope.kind = .function)
    (hbind : BindsTo s (fnOf name qual params body scope dV kV doc pm an cdv ct) ⟨vs, []⟩ ((names.map Str.ofString).zip vs))
    (hkind : (names.all fun y => scope.names.lookup (Str.ofString y) == some .local || scope.names.lookup (Str.ofString y) == some .cell) = true) (hnn : names.Nodup) (hnd : ((cellsFrom 0 scope.names []).map (·.1)).Nodup)
    (hd : A.depth < recursionLimit) (S : Sat h₀ Z env loc H s.heap) (hH₀ : ∀ a l, H₀ a = some l → ∃ l', H a = some l' ∧ l.xs = l'.xs) (hv : VRs Z ps vs)
    (h : ∀ L' s', Sat h₀ Z (envOfC qual scope L' f cdv) (argLoc names ps) H₀ s'.heap → Kp s s' → s.heap.get? L' = none → (∀ n c, (n, c) ∈ (envOfC qual scope L' f cdv).cells → s.heap.get? c = none) →
      wpAny (model prog w) (A.deeper (envOfC qual scope L' f cdv)) (execs body (envOfC qual scope L' f cdv)) (fun fl s' => R (.ok (.ret (match fl with | .ret v => v | _ => .none))) s')
        (fun e s' => wpAny (model prog w) (A.deeper (envOfC qual scope L' f cdv)) (leaving (envOfC qual scope L' f cdv) e) (fun _ s'' => R (.error e) s'') (fun e' s'' => R (.error e') s'') s') s') :
    codeAny (model prog w) A (.call (.ref f) ⟨vs, []⟩) R s := by
  have X : K.In s.heap := G.X.keeps S.keep
  refine codeAny_call_function hd (X _ _ ho) rfl hco hgen rfl (codeRec_of X hcd) (hbind _ _ _ _ ?_)
  have hkinds : ∀ y, y ∈ (names.map Str.ofString).zip vs → ∃ x ∈ names, y.1 = Str.ofString x := fun y hy => by
    have := (List.of_mem_zip hy).1
    obtain ⟨x, hx, e⟩ := List.mem_map.mp this
    exact ⟨x, hx, e.symm⟩
  have kd : ((names.map Str.ofString).zip vs).all (fun y => scope.names.lookup y.1 == some .local || scope.names.lookup y.1 == some .cell) = true := by
    refine List.all_eq_true.mpr fun y hy => ?_
    obtain ⟨x, hx, e⟩ := hkinds y hy
    rw [e]; exact List.all_eq_true.mp hkind x hx
  refine wpAny_newFunctionEnv_cells hk (kindsX kd _) fun env' he s' x => ?_
  subst he
  refine ⟨(G.nl.keeps S.keep).keeps x.toInCall.keep, codeAny_func ?_⟩
  have hkeep := x.toInCall.keep
  have nd : (((names.map Str.ofString).zip vs).map (·.1)).Nodup := by
    refine List.Nodup.sublist (zip_fst_sublist _ _) ?_
    exact hnn.map Str.ofString fun a b hab h => hab (ofString_inj h)
  refine h s.heap.objs.size s' ⟨S.base, fun a o e => hkeep a o (S.frz a o e), ?_, ?_, ?_, hk, ⟨_, x.toInCall.ns, ?_⟩, ?_⟩ ?_ (get_size _) ?_
  · cases q : Z s.heap.objs.size with
    | none => exact q
    | some o => have := S.frz _ o q; rw [get_size] at this; cases this
  · intro m c hm
    have hab : s.heap.objs.size < c := x.above m c hm
    refine ⟨?_, ?_⟩
    · cases q : Z c with
      | none => rfl
      | some o => have := Heap.lt_size (S.frz c o q); exact absurd this (Nat.lt_asymm hab)
    · exact ⟨_, x.cell m c (lookup_of_mem_nodup (cellsFrom_names scope.names 0 (s.heap.objs.size + 1) [] [] rfl ▸ hnd) hm)⟩
  · show (List.map (·.2) (cellsFrom (s.heap.objs.size + 1) scope.names [])).Nodup
    exact List.pairwise_map.mpr x.apart
  · intro y p e
    obtain ⟨v, hm, vr⟩ := argLoc_some hv e
    have hy := List.all_eq_true.mp kd _ hm
    by_cases hl : (envOfC qual scope s.heap.objs.size f cdv).kindOf (Str.ofString y) = some .local
    · exact .loc v hl (bindL_mem hl nd (.inl hm)) vr
    · have hc : (envOfC qual scope s.heap.objs.size f cdv).kindOf (Str.ofString y) = some .cell := by
        rcases Bool.or_eq_true_iff.mp hy with h | h
        · exact absurd (show scope.names.lookup (Str.ofString y) = some .local by simpa using h) hl
        · exact (show scope.names.lookup (Str.ofString y) = some .cell by simpa using h)
      obtain ⟨c, hc'⟩ := Option.isSome_iff_exists.mp (((kindsX kd (s.heap.objs.size + 1) _ hm).resolve_left fun h => hl h).2)
      have hcell := x.cell _ _ hc'
      have e : bindC (envOfC qual scope s.heap.objs.size f cdv).kindOf ((names.map Str.ofString).zip vs) (fun _ => none) (Str.ofString y) = some v := bindC_mem hl nd (.inl hm)
      have hcell' : s'.heap.IsCell c (bindC (envOfC qual scope s.heap.objs.size f cdv).kindOf ((names.map Str.ofString).zip vs) (fun _ => none) (Str.ofString y)) := hcell
      rw [e] at hcell'
      exact .cell c v (.inl hc) hc' hcell' vr
  · intro a l e
    obtain ⟨l', e', hx⟩ := hH₀ a l e
    obtain ⟨z, ws, k, ho', r⟩ := S.obj a l' e'
    exact ⟨z, ws, k, hkeep _ _ ho', by rw [hx]; exact r⟩
  · obtain ⟨h', tk, e, k⟩ := x.done
    exact ⟨h', tk, e, k⟩
  · intro m c hm
    have hab : s.heap.objs.size < c := x.above m c hm
    cases q : s.heap.get? c with
    | none => rfl
    | some o => exact absurd (Heap.lt_size q) (Nat.lt_asymm hab)
end
end Mine
end
section
namespace Mine
def flowVal : Flow → Value
  | .ret v => v
  | _ => .none
theorem FlR.val {Z : Zm} : ∀ {p : Fl} {fl : Flow}, FlR Z p fl → VR Z (match p with | .ret p => p | _ => .none) (flowVal fl)
  | _, _, .ret v => v
  | _, _, .next => .none
  | _, _, .brk => .none
  | _, _, .cont => .none
def flVal : Fl → PV
  | .ret p => p
  | _ => .none
/-- what a call hands back: the value; a new list of the callee's may be had as a value -/
def retW (p : PV) (H H' : LH) (Q : PV → LH → Prop) : Prop := Q p H ∨ ∃ a xs, p = .ref a ∧ H' a = some ⟨true, xs⟩ ∧ Q (.lst xs) H
def callW (names : List String) (Fb : XT) (ps : List PV) (H : LH) (Q : PV → LH → Prop) : Prop := Fb ⟨argLoc names ps, H.ro⟩ fun fl σ' => retW (flVal fl) H σ'.H Q
section
variable {K : Frag} {h₀ : Heap} {prog : Program} {w : World} {n : Nat} {env : Env}
theorem Sat.of_callee {Z Z' : Zm} {env' : Env} {loc loc' loc'' : Loc} {H H₀ H' : LH} {s s₁ s₂ : Shared} (S : Sat h₀ Z env loc H s.heap) (hkp : Kp s s₁) (Kc : Sk h₀ env' loc' Z H₀ s₁ loc'' Z' H' s₂)
    (hall : ∀ b o, s.heap.get? b = some o → s₂.heap.get? b = some o) : Sat h₀ Z' env loc H s₂.heap := by
  refine (S.keeps hall).freeze Kc.fz.1 Kc.sat.frz ?_ ?_ ?_
  · obtain ⟨o, e⟩ := S.nsAt
    exact Kc.noZ (hkp.get e) S.nsZ
  · intro m c hm
    obtain ⟨z, _, o, e, _⟩ := S.cellZ m c hm
    exact Kc.noZ (hkp.get e) z
  · intro a l e
    obtain ⟨z, _, _, eo, _⟩ := S.obj a l e
    exact Kc.noZ (hkp.get eo) z
theorem fn_ok {name qual : Str} {params : Arguments} {body : List Stmt} {scope : Scope} {dV kV doc pm cdv ct oc : Value} {an od : Option Addr} {osl : Array (Option Value)} {f : Addr} {names : List String} {Fb : XT}
    (G : Gr K h₀) (ho : K.lookup f = some ⟨oc, od, .func (fnOf name qual params body scope dV kV doc pm an cdv ct), osl⟩) (hcd : codeIn K cdv qual = true)
    (hco : scope.isCoroutine = false) (hgen : scope.isGenerator = false) (hk : scope.kind = .function)
    (hbind : ∀ s vs, vs.length = names.length → BindsTo s (fnOf name qual params body scope dV kV doc pm an cdv ct) ⟨vs, []⟩ ((names.map Str.ofString).zip vs))
    (hkind : (names.all fun y => scope.names.lookup (Str.ofString y) == some .local || scope.names.lookup (Str.ofString y) == some .cell) = true) (hnn : names.Nodup) (hnd : ((cellsFrom 0 scope.names []).map (·.1)).Nodup)
    (hb : ∀ L', XsOk h₀ prog w n (envOfC qual scope L' f cdv) body Fb) :
    ∀ loc Z H s ps vs, Sat h₀ Z env loc H s.heap → VRs Z ps vs → OpOk h₀ prog w (n + 1) env loc Z H s (call (.ref f) vs) (fun Q => ps.length = names.length ∧ callW names Fb ps H Q) := by
  intro loc Z H s ps vs S hv A Q Q' E rm f q
  obtain ⟨hlen, f⟩ := f
  refine wpAny_call (enter_ok H.ro G ho hcd hco hgen hk (hbind s vs (by rw [hv.length]; exact hlen)) hkind hnn hnd (by have := rm.dp; omega) S (fun a l e => ?_) hv fun L' s₁ S₁ kp hL hC => ?_)
  · unfold LH.ro at e
    cases q1 : H a with
    | none => rw [q1] at e; cases e
    | some l' => rw [q1] at e; cases e; exact ⟨l', rfl, rfl⟩
  · refine hb L' (A.deeper _) Z (argLoc names ps) H.ro s₁ _ _ _ (rm.deeper _) S₁ f fun fl p loc' Z' H' s₂ Kc vf f' => ?_
    have hall : ∀ b o, s.heap.get? b = some o → s₂.heap.get? b = some o := fun b o e => by
      refine Kc.frm b o (kp.get e) ?_ ?_ ?_
      · intro h; rw [show (envOfC qual scope L' _ cdv).locals = L' from rfl] at h; rw [h, hL] at e; cases e
      · intro m hm; rw [hC m b hm] at e; cases e
      · intro xs hx
        unfold LH.ro at hx
        cases q1 : H b with
        | none => rw [q1] at hx; cases hx
        | some l' => rw [q1] at hx; cases hx
    have hsh : Kp s s₂ := by
      obtain ⟨h', tk, e, _⟩ := kp
      obtain ⟨h'', tk', e'⟩ := Kc.sh
      subst e
      exact ⟨h'', tk', e', fun b o eb => by have := hall b o eb; rw [e'] at this; exact this⟩
    have S₂ := S.of_callee kp Kc hall
    have hfz : Fresh s Z Z' := ⟨Kc.fz.1, fun a h1 h2 => by
      have := Kc.fz.2 a h1 h2
      exact kp.none this⟩
    have hfl : VR Z' (flVal p) (flowVal fl) := vf.val
    change Q' (flowVal fl) s₂
    rcases f' with f' | ⟨a, xs, hp, ha, f'⟩
    · exact q _ _ _ _ _ ⟨S₂, hsh, hfz, FreshH.refl s H⟩ hfl f'
    · rw [hp] at hfl
      obtain ⟨za, ws, k, ho', r⟩ := Kc.sat.obj a _ ha
      have hfresh : s.heap.get? a = none := by
        rcases Kc.fh a _ ha with ⟨l, hl, hm⟩ | hn
        · unfold LH.ro at hl
          cases q1 : H a with
          | none => rw [q1] at hl; cases hl
          | some l' => rw [q1] at hl; cases hl; cases hm rfl
        · exact kp.none hn
      have hz : Zle Z' (Z'.set a { cls := .type "list", data := .seq ws.toArray k }) := Zm.le_set _ za
      have hfl' : flowVal fl = .ref a := by
        generalize flowVal fl = x at hfl
        cases hfl; rfl
      have nea : ∀ b o, s.heap.get? b = some o → b ≠ a := fun b o e h => by rw [h, hfresh] at e; cases e
      have S₃ : Sat h₀ (Z'.set a { cls := .type "list", data := .seq ws.toArray k }) env loc H s₂.heap := by
        refine S₂.freeze hz ?_ ?_ ?_ ?_
        · intro b o e
          unfold Zm.set at e
          by_cases hb' : b = a
          · rw [if_pos hb'] at e; cases e; rw [hb']; exact ho'
          · rw [if_neg hb'] at e; exact S₂.frz b o e
        · obtain ⟨o, e⟩ := S.nsAt
          unfold Zm.set; rw [if_neg (nea _ _ e)]; exact S₂.nsZ
        · intro m c hm
          obtain ⟨_, _, o, e, _⟩ := S.cellZ m c hm
          unfold Zm.set; rw [if_neg (nea _ _ e)]; exact (S₂.cellZ m c hm).1
        · intro b l e
          obtain ⟨_, _, _, eo, _⟩ := S.obj b l e
          unfold Zm.set; rw [if_neg (nea _ _ eo)]; exact (S₂.obj b l e).1
      rw [hfl']
      refine q _ _ _ _ _ ⟨S₃, hsh, ⟨Kc.fz.1.trans hz, fun b h1 h2 => ?_⟩, FreshH.refl s H⟩ (.lst (Zm.set_self _ _ _) (r.mono hz)) f'
      unfold Zm.set at h2
      by_cases hb' : b = a
      · rw [hb']; exact hfresh
      · rw [if_neg hb'] at h2; exact hfz.2 b h1 h2
end
end Mine
end
section
namespace Mine
section
variable {K : Frag} {h₀ : Heap} {prog : Program} {w : World} {n : Nat} {env : Env}
/-- the same plain state, another frame: what a pure expression of another frame's leaves -/
theorem Sat.other {env' : Env} {loc loc' : Loc} {Z Z' : Zm} {H H' : LH} {s s' : Shared} (S : Sat h₀ Z env loc H s.heap) (k : Ke h₀ env' loc' Z H s Z' H' s') : Sat h₀ Z' env loc H' s'.heap := by
  have fz : ∀ {a : Addr} {o : Obj}, s.heap.get? a = some o → Z a = none → Z' a = none := fun {a o} e hz => by
    cases q : Z' a with
    | none => rfl
    | some o' => have := k.fz.2 a hz (by rw [q]; exact Option.some_ne_none _); rw [e] at this; cases this
  refine ⟨fun a o e => k.fz.1 a o (S.base a o e), k.sat.frz, ?_, ?_, S.cellN, S.kind, ?_, k.sat.obj⟩
  · obtain ⟨o, e⟩ := S.nsAt
    exact fz e S.nsZ
  · intro m c hm
    obtain ⟨z, w', o, e, d⟩ := S.cellZ m c hm
    exact ⟨fz e z, w', o, k.kp.get e, d⟩
  · obtain ⟨m, a, b⟩ := S.ns
    exact ⟨m, a.at' fun o e => k.kp.get e, fun x p e => (b x p e).keeps k.fz.1 fun _ _ e => k.kp.get e⟩
/-- an assignment that turns the frame's own names alone -/
structure Sa (h₀ : Heap) (env : Env) (loc' : Loc) (Z : Zm) (H : LH) (s s' : Shared) : Prop where
  sat : Sat h₀ Z env loc' H s'.heap
  sh : ∃ h' tk, s' = { s with heap := h', toks := tk }
  kp : ∀ b o, b ≠ env.locals → s.heap.get? b = some o → s'.heap.get? b = some o
def AcOk (h₀ : Heap) (prog : Program) (w : World) (env : Env) (t : Expr) (fa : PV → St → (St → Prop) → Prop) : Prop :=
  ∀ (A : Around) (Z : Zm) (loc : Loc) (H : LH) (s : Shared) (p : PV) (v : Value) (Q : St → Prop) (Q' : Unit → Shared → Prop) (E : Value → Shared → Prop),
    A.handled = none → Sat h₀ Z env loc H s.heap → VR Z p v → fa p ⟨loc, H⟩ Q → (∀ loc' s', Sa h₀ env loc' Z H s s' → Q ⟨loc', H⟩ → Q' () s') → wpAny (model prog w) A (assign t env v) Q' E s
theorem storeL {A : Around} {Z : Zm} {loc : Loc} {H : LH} {s : Shared} {x : String} {p : PV} {v : Value} {Q' : Unit → Shared → Prop} {E : Value → Shared → Prop} (S : Sat h₀ Z env loc H s.heap) (hv : VR Z p v)
    (hk : env.kindOf (Str.ofString x) = some .local) (q : ∀ s', Sa h₀ env (loc.set x p) Z H s s' → Q' () s') : wpAny (model prog w) A (storeName env (Str.ofString x) v) Q' E s := by
  obtain ⟨m, hm, hl⟩ := S.ns
  have neZ : ∀ {a : Addr} {o : Obj}, Z a = some o → a ≠ env.locals := fun {a o} e h => by rw [h, S.nsZ] at e; cases e
  have neC : ∀ {n : Str} {c : Addr}, (n, c) ∈ env.cells → c ≠ env.locals := fun {n c} hc h => by
    obtain ⟨_, w, o, e, d⟩ := S.cellZ n c hc
    obtain ⟨o', es, ep, e', d', _⟩ := hm
    rw [h, e'] at e; cases e; rw [d'] at d; cases d
  have neH : ∀ {a : Addr} {l : LO}, H a = some l → a ≠ env.locals := fun {a l} e h => by
    obtain ⟨_, vs, k, e', _⟩ := S.obj a l e
    obtain ⟨o', es, ep, e'', d', _⟩ := hm
    rw [h, e''] at e'; cases e'; cases d'
  refine wpAny_storeName_local hk hm (fun h' hn hs => q _ ⟨⟨S.base, ?_, S.nsZ, ?_, S.cellN, S.kind, ⟨_, hn, ?_⟩, ?_⟩, ⟨h', _, rfl⟩, ?_⟩) (by rw [S.kind]; rfl)
  · exact fun a o e => (hs.2 a (neZ e)).trans (S.frz a o e)
  · intro n c hm'
    obtain ⟨z, w', o, e, d⟩ := S.cellZ n c hm'
    exact ⟨z, w', o, (hs.2 c (neC hm')).trans e, d⟩
  · intro y p' e
    by_cases hy : y = x
    · subst hy
      rw [Loc.set_self] at e; cases e
      exact .loc v hk (by simp) hv
    · rw [Loc.set_ne _ _ hy] at e
      cases hl y p' e with
      | loc v' a b c => exact .loc v' a (by rw [if_neg fun h => hy (ofString_inj h)]; exact b) c
      | cell c v' a b d g => exact .cell c v' a b (d.sameBut hs (neC (mem_of_lookup b))) g
  · intro a l e
    obtain ⟨z, vs, k, e', r⟩ := S.obj a l e
    exact ⟨z, vs, k, (hs.2 a (neH e)).trans e', r⟩
  · exact fun b o h1 e => (hs.2 b h1).trans e
theorem ac_name {x : String} {pos : Pos} (hk : env.kindOf (Str.ofString x) = some .local) : AcOk h₀ prog w env (.Name (Str.ofString x) pos) (fun p σ Q => Q ⟨σ.loc.set x p, σ.H⟩) :=
  fun A Z loc H s p v Q Q' E hh S hv f q => wpAny_assign_Name (storeL S hv hk fun s' k => q _ _ k f)
/-- the tests of a comprehension -/
def TsOk (h₀ : Heap) (prog : Program) (w : World) (n : Nat) (env : Env) (ifs : List Expr) (F : BT) : Prop :=
  ∀ (A : Around) (Z : Zm) (loc : Loc) (H : LH) (s : Shared) (Q : Bool → LH → Prop) (Q' : Bool → Shared → Prop) (E : Value → Shared → Prop),
    Rm n A → Sat h₀ Z env loc H s.heap → F ⟨loc, H⟩ Q →
    (∀ b Z' H' s', Ke h₀ env loc Z H s Z' H' s' → Q b H' → Q' b s') →
    wpAny (model prog w) A (forIn ifs true fun c r => if r = true then do let ok ← isTrue c env (eval c env); pure (ForInStep.yield ok) else pure (ForInStep.yield r)) Q' E s
theorem ts_nil : TsOk h₀ prog w n env [] (fun σ Q => Q true σ.H) := fun _ _ _ _ _ _ _ _ _ S f q => wpAny_tests_nil (q _ _ _ _ (Ke.refl S) f)
/-- a comprehension over the items -/
def compW (fa : PV → St → (St → Prop) → Prop) (ft : BT) (fe : ET) (cap : Loc) : List PV → List PV → LH → (List PV → LH → Prop) → Prop
  | [], acc, H, Q => Q acc H
  | p :: r, acc, H, Q => fa p ⟨cap, H⟩ fun σ => ft σ fun c H₁ => if c then fe ⟨σ.loc, H₁⟩ fun y H₂ => compW fa ft fe cap r (acc ++ [y]) H₂ Q else compW fa ft fe cap r acc H₁ Q
/-- what the block of a comprehension sees of its frame -/
structure Caps (env : Env) (scope : Scope) (cl : List (Str × Addr)) (caps : List String) : Prop where
  sub : ∀ p ∈ cl, p ∈ env.cells
  nd : (cl.map (·.2)).Nodup
  kind : scope.kind = .function
  see : ∀ C, ∀ y ∈ caps, ((compEnvC scope cl C env).kindOf (Str.ofString y) = some .cell ∨ (compEnvC scope cl C env).kindOf (Str.ofString y) = some .free) ∧ cl.lookup (Str.ofString y) = env.cells.lookup (Str.ofString y) ∧ env.kindOf (Str.ofString y) ≠ some .local
def capLoc (caps : List String) (loc : Loc) : Loc := fun y => if y ∈ caps then loc y else none
theorem Sat.block {Z : Zm} {loc : Loc} {H : LH} {h : Heap} {scope : Scope} {cl : List (Str × Addr)} {caps : List String} {C : Addr} {m : Str → Option Value} (S : Sat h₀ Z env loc H h) (cp : Caps env scope cl caps) (hn : h.Ns C m) (hZ : Z C = none) :
    Sat h₀ Z (compEnvC scope cl C env) (capLoc caps loc) H h := by
  refine ⟨S.base, S.frz, hZ, fun m c hm => S.cellZ m c (cp.sub _ hm), cp.nd, cp.kind, ⟨m, hn, fun y p e => ?_⟩, S.obj⟩
  unfold capLoc at e
  split at e
  · rename_i hy
    obtain ⟨h1, h2, h3⟩ := cp.see C y hy
    obtain ⟨m', hm', hl⟩ := S.ns
    cases hl y p e with
    | loc v a b c => exact absurd a h3
    | cell c v a b d g => exact .cell c v h1 (by show cl.lookup _ = _; rw [h2]; exact b) d g
  · cases e
end
end Mine
end
section
namespace Mine
section
variable {K : Frag} {h₀ : Heap} {prog : Program} {w : World} {n : Nat} {env : Env}
/-- as EvOk, in heaps that bear all that g bears -/
def EvAt (g : Heap) (h₀ : Heap) (prog : Program) (w : World) (n : Nat) (env : Env) (e : Expr) (F : ET) : Prop :=
  ∀ (A : Around) (Z : Zm) (loc : Loc) (H : LH) (s : Shared) (Q : PV → LH → Prop) (Q' : Value → Shared → Prop) (E : Value → Shared → Prop),
    Rm n A → (∀ b o, g.get? b = some o → s.heap.get? b = some o) → Sat h₀ Z env loc H s.heap → F ⟨loc, H⟩ Q →
    (∀ v p Z' H' s', Ke h₀ env loc Z H s Z' H' s' → VR Z' p v → Q p H' → Q' v s') → wpAny (model prog w) A (eval e env) Q' E s
theorem EvOk.at {g : Heap} {e : Expr} {F : ET} (h : EvOk h₀ prog w n env e F) : EvAt g h₀ prog w n env e F := fun A Z loc H s Q Q' E rm _ S f q => h A Z loc H s Q Q' E rm S f q
/-- what is known while a comprehension runs: I the walker, D the list, C the block's names -/
structure Cs (h₀ : Heap) (env : Env) (loc : Loc) (Z : Zm) (H : LH) (s : Shared) (I D C : Addr) (Z' : Zm) (H' : LH) (ps : List PV) (s' : Shared) : Prop where
  sat : Sat h₀ Z' env loc H' s'.heap
  kp : Kp s s'
  fz : Fresh s Z Z'
  fh : FreshH s H H'
  lst : ∃ ys k, s'.heap.get? D = some { cls := .type "list", data := .seq (List.toArray ys) k } ∧ VRs Z' ps ys
  ns : ∃ m, s'.heap.Ns C m
  i0 : s.heap.get? I = none
  d0 : s.heap.get? D = none
  c0 : s.heap.get? C = none
  di : D ≠ I
  ci : C ≠ I
  cd : C ≠ D
  zi : Z' I = none
  zd : Z' D = none
  zc : Z' C = none
  hi : H' I = none
  hd : H' D = none
  hc : H' C = none
  li : ∃ o, s'.heap.get? I = some o
  s0 : Sat h₀ Z env loc H s.heap
section
variable {loc : Loc} {Z Z' : Zm} {H H' : LH} {s s' : Shared} {I D C : Addr} {ps : List PV}
theorem Cs.dAt (c : Cs h₀ env loc Z H s I D C Z' H' ps s') : ∃ o, s'.heap.get? D = some o := let ⟨_, _, e, _⟩ := c.lst; ⟨_, e⟩
theorem Cs.cAt (c : Cs h₀ env loc Z H s I D C Z' H' ps s') : ∃ o, s'.heap.get? C = some o := let ⟨_, o, _, _, e, _⟩ := c.ns; ⟨o, e⟩
/-- all is kept but one of the three -/
theorem Cs.turn {B : Addr} {h' : Heap} {tk : Nat} {ps' : List PV} (c : Cs h₀ env loc Z H s I D C Z' H' ps s') (hB : B = I ∨ B = D ∨ B = C) (hk : ∀ b o, b ≠ B → s'.heap.get? b = some o → h'.get? b = some o)
    (hl : ∃ ys k, h'.get? D = some { cls := .type "list", data := .seq (List.toArray ys) k } ∧ VRs Z' ps' ys) (hn : ∃ m, h'.Ns C m) (hi : ∃ o, h'.get? I = some o) : Cs h₀ env loc Z H s I D C Z' H' ps' { s' with heap := h', toks := tk } := by
  have b0 : s.heap.get? B = none := by rcases hB with h | h | h <;> rw [h] <;> first | exact c.i0 | exact c.d0 | exact c.c0
  have bz : Z' B = none := by rcases hB with h | h | h <;> rw [h] <;> first | exact c.zi | exact c.zd | exact c.zc
  have bh : H' B = none := by rcases hB with h | h | h <;> rw [h] <;> first | exact c.hi | exact c.hd | exact c.hc
  obtain ⟨hh, tt, rfl, kk⟩ := c.kp
  have ne0 : ∀ b o, s.heap.get? b = some o → b ≠ B := fun b o e h => by rw [h, b0] at e; cases e
  have keep0 : ∀ b o, s.heap.get? b = some o → h'.get? b = some o := fun b o e => hk b o (ne0 b o e) (kk b o e)
  have S' := c.sat
  -- the frame and its cells stood before
  have base : Sat h₀ Z' env loc H' h' := by
    refine ⟨S'.base, fun a o e => hk a o (fun h => by rw [h, bz] at e; cases e) (S'.frz a o e), S'.nsZ, ?_, S'.cellN, S'.kind, ?_, fun a l e => ?_⟩
    · intro m x hm
      obtain ⟨z, w', o, e, d⟩ := S'.cellZ m x hm
      obtain ⟨_, _, o0, e0, _⟩ := c.s0.cellZ m x hm
      exact ⟨z, w', o, hk x o (ne0 x o0 e0) e, d⟩
    · obtain ⟨m, hm, hl⟩ := S'.ns
      obtain ⟨oL, eL⟩ := c.s0.nsAt
      refine ⟨m, hm.at' fun o e => hk _ o (ne0 _ oL eL) e, fun y p e => ?_⟩
      cases hl y p e with
      | loc v a b c => exact .loc v a b c
      | cell x v a b d g =>
        obtain ⟨o, eo, d'⟩ := d
        obtain ⟨_, _, o0, e0, _⟩ := c.s0.cellZ _ x (mem_of_lookup b)
        exact .cell x v a b ⟨o, hk x o (ne0 x o0 e0) eo, d'⟩ g
    · obtain ⟨z, vs, k, e', r⟩ := S'.obj a l e
      exact ⟨z, vs, k, hk a _ (fun h => by rw [h, bh] at e; cases e) e', r⟩
  exact ⟨base, ⟨h', tk, rfl, keep0⟩, c.fz, c.fh, hl, hn, c.i0, c.d0, c.c0, c.di, c.ci, c.cd, c.zi, c.zd, c.zc, c.hi, c.hd, c.hc, hi, c.s0⟩
/-- a pure expression of the block's -/
theorem Cs.pure {env' : Env} {loc' : Loc} {Z₂ : Zm} {H₂ : LH} {s₂ : Shared} (c : Cs h₀ env loc Z H s I D C Z' H' ps s') (k : Ke h₀ env' loc' Z' H' s' Z₂ H₂ s₂) : Cs h₀ env loc Z H s I D C Z₂ H₂ ps s₂ := by
  have fz : ∀ {a : Addr}, (∃ o, s'.heap.get? a = some o) → Z' a = none → Z₂ a = none := fun {a} ⟨o, e⟩ hz => by
    cases q : Z₂ a with
    | none => rfl
    | some o' => have := k.fz.2 a hz (by rw [q]; exact Option.some_ne_none _); rw [e] at this; cases this
  have fh : ∀ {a : Addr}, (∃ o, s'.heap.get? a = some o) → H' a = none → H₂ a = none := fun {a} ⟨o, e⟩ hz => by
    cases q : H₂ a with
    | none => rfl
    | some o' => have := k.fh.2 a hz (by rw [q]; exact Option.some_ne_none _); rw [e] at this; cases this
  obtain ⟨ys, kk, e, r⟩ := c.lst
  obtain ⟨m, hm⟩ := c.ns
  obtain ⟨oI, eI⟩ := c.li
  exact ⟨c.sat.other k, c.kp.trans k.kp, c.fz.trans k.fz c.kp, c.fh.trans k.fh c.kp, ⟨ys, kk, k.kp.get e, r.mono k.fz.1⟩, ⟨m, hm.at' fun o e => k.kp.get e⟩, c.i0, c.d0, c.c0, c.di, c.ci, c.cd, fz c.li c.zi, fz c.dAt c.zd, fz c.cAt c.zc, fh c.li c.hi, fh c.dAt c.hd, fh c.cAt c.hc, ⟨oI, k.kp.get eI⟩, c.s0⟩
/-- what is known behind a comprehension's turns -/
structure Ce (h₀ : Heap) (env : Env) (loc : Loc) (Z : Zm) (H : LH) (s : Shared) (D C : Addr) (Z' : Zm) (H' : LH) (ps : List PV) (s' : Shared) : Prop where
  sat : Sat h₀ Z' env loc H' s'.heap
  kp : Kp s s'
  fz : Fresh s Z Z'
  fh : FreshH s H H'
  lst : ∃ ys k, s'.heap.get? D = some { cls := .type "list", data := .seq (List.toArray ys) k } ∧ VRs Z' ps ys
  ns : ∃ m, s'.heap.Ns C m
  d0 : s.heap.get? D = none
  c0 : s.heap.get? C = none
  cd : C ≠ D
  zd : Z' D = none
  zc : Z' C = none
  hd : H' D = none
  hc : H' C = none
theorem Cs.fin {h' : Heap} {tk : Nat} (c : Cs h₀ env loc Z H s I D C Z' H' ps s') (hk : ∀ b o, b ≠ I → s'.heap.get? b = some o → h'.get? b = some o) : Ce h₀ env loc Z H s D C Z' H' ps { s' with heap := h', toks := tk } := by
  obtain ⟨hh, tt, rfl, kk⟩ := c.kp
  have ne0 : ∀ b o, s.heap.get? b = some o → b ≠ I := fun b o e h => by rw [h, c.i0] at e; cases e
  have S' := c.sat
  refine ⟨⟨S'.base, fun a o e => hk a o (fun h => by rw [h, c.zi] at e; cases e) (S'.frz a o e), S'.nsZ, ?_, S'.cellN, S'.kind, ?_, fun a l e => ?_⟩, ⟨h', tk, rfl, fun b o e => hk b o (ne0 b o e) (kk b o e)⟩, c.fz, c.fh, ?_, ?_, c.d0, c.c0, c.cd, c.zd, c.zc, c.hd, c.hc⟩
  · intro m x hm
    obtain ⟨z, w', o, e, d⟩ := S'.cellZ m x hm
    obtain ⟨_, _, o0, e0, _⟩ := c.s0.cellZ m x hm
    exact ⟨z, w', o, hk x o (ne0 x o0 e0) e, d⟩
  · obtain ⟨m, hm, hl⟩ := S'.ns
    obtain ⟨oL, eL⟩ := c.s0.nsAt
    refine ⟨m, hm.at' fun o e => hk _ o (ne0 _ oL eL) e, fun y p e => ?_⟩
    cases hl y p e with
    | loc v a b c => exact .loc v a b c
    | cell x v a b d g =>
      obtain ⟨o, eo, d'⟩ := d
      obtain ⟨_, _, o0, e0, _⟩ := c.s0.cellZ _ x (mem_of_lookup b)
      exact .cell x v a b ⟨o, hk x o (ne0 x o0 e0) eo, d'⟩ g
  · obtain ⟨z, vs, k, e', r⟩ := S'.obj a l e
    exact ⟨z, vs, k, hk a _ (fun h => by rw [h, c.hi] at e; cases e) e', r⟩
  · obtain ⟨ys, k, e, r⟩ := c.lst
    exact ⟨ys, k, hk D _ c.di e, r⟩
  · obtain ⟨m, hm⟩ := c.ns
    exact ⟨m, hm.at' fun o e => hk C o c.ci e⟩
theorem comp_loop {A : Around} {Z₁ : Zm} {H₁ : LH} {s₂ : Shared} {a : PV} {x : Value} {xs : List PV} {I : Addr} {fp wr : List Addr} {P : Nat → Value → Prop} {Sp : Nat → Heap → Prop} {elt t iter : Expr} {ifs : List Expr} {scope : Scope} {cl : List (Str × Addr)} {caps : List String} {pos : Pos}
    {fa : PV → St → (St → Prop) → Prop} {ft : BT} {fe : ET} {Q : List PV → LH → Prop} {RR : Value → Addr → Result → Shared → Prop} {E : Value → Shared → Prop}
    (rm : Rm n A) (k₁ : Ke h₀ env loc Z H s Z₁ H₁ s') (S : Sat h₀ Z env loc H s.heap) (va : VR Z₁ a x) (hit : iterOf H₁ a = some xs) (hsz : xs.length ≤ sizeLine)
    (Wk : Wk prog w A Z₁ xs I fp wr P Sp) (kp : Kp s' s₂) (hst : Sp 0 s₂.heap) (hI : s'.heap.get? I = none) (hlive : ∀ i h, Sp i h → ∃ o, h.get? I = some o) (hwr : wr = [I]) (hfp : ∀ b ∈ fp, b = I ∨ .ref b = x)
    (cp : Caps env scope cl caps) (hcell : ∀ y ∈ scope.names, y.2 ≠ .cell)
    (ha : ∀ C, AcOk h₀ prog w (compEnvC scope cl C env) t fa) (ht : ∀ C, TsOk h₀ prog w n (compEnvC scope cl C env) ifs ft) (he : ∀ C, EvAt s.heap h₀ prog w n (compEnvC scope cl C env) elt fe)
    (htg : ∀ i v, letOwnedTupleGo t i v = pure ()) (f : compW fa ft fe (capLoc caps loc) xs [] H₁ Q)
    (hRR : ∀ D C Z' H' ps s₃, Ce h₀ env loc Z H s D C Z' H' ps s₃ → Q ps H' → RR (.ref D) C (.ok .next) s₃) :
    wpAny (model prog w) A (newList []) (fun acc s₃ => wpAny (model prog w) A (newFunctionEnv scope env.globals cl [] env.qual none .none (some env)) (fun cenv s₄ =>
      codeAny (model prog w) A (.compStart (.ListComp elt [⟨t, iter, ifs, 0⟩] scope pos) 0 (.ref I) acc { cenv with scope := relabel scope env }) (RR acc cenv.locals) s₄) E s₃) E s₂ := by
  obtain ⟨oI, eI⟩ := hlive _ _ hst
  have hIs : s.heap.get? I = none := k₁.kp.none hI
  have k₂ := k₁.trans (Ke.keep k₁.sat kp)
  have zI : Z₁ I = none := by
    cases q1 : Z₁ I with
    | none => rfl
    | some o => have := k₁.sat.frz I o q1; rw [hI] at this; cases this
  have hI₁ : H₁ I = none := by
    cases q1 : H₁ I with
    | none => rfl
    | some l => obtain ⟨_, _, _, e, _⟩ := k₁.sat.obj I l q1; rw [hI] at e; cases e
  refine wpAny_newObj_type (wpAny_newFunctionEnv hcell (by intro y hy; simp at hy) (fun h₁ hns₁ hsb₁ => ?_) cp.kind)
  dsimp only at hns₁ hsb₁ ⊢
  generalize hH2 : s₂.heap.push { cls := .type "list", dict := none, data := .seq ([] : List Value).toArray } = H2 at hns₁ hsb₁ ⊢
  generalize hD : s₂.heap.objs.size = D at hns₁ hsb₁ ⊢
  generalize hC : H2.objs.size = C at hns₁ hsb₁ ⊢
  have hCD : C = D + 1 := by rw [← hC, ← hH2, Heap.size_push, hD]
  have hCneD : C ≠ D := by omega
  have d2 : s₂.heap.get? D = none := by rw [← hD]; exact get_size _
  have c2 : s₂.heap.get? C = none := by
    cases q1 : s₂.heap.get? C with
    | none => rfl
    | some o => have := Heap.lt_size q1; rw [hD, hCD] at this; exact absurd this (Nat.not_lt.mpr (Nat.le_succ D))
  have old : ∀ b o, s₂.heap.get? b = some o → h₁.get? b = some o := fun b o e => by
    have h1 : H2.get? b = some o := hH2 ▸ Heap.get?_push_of_some _ e
    have hb : b ≠ C := fun h => by rw [h, c2] at e; cases e
    exact hsb₁.extBut b o hb (Heap.get?_push_of_some _ h1)
  have hDat : h₁.get? D = some { cls := .type "list", data := .seq (List.toArray ([] : List Value)) 0 } := by
    have h1 : H2.get? D = some { cls := .type "list", data := .seq (List.toArray ([] : List Value)) 0 } := by rw [← hH2, ← hD]; exact Heap.get?_push_size _ rfl
    exact hsb₁.extBut D _ (Ne.symm hCneD) (Heap.get?_push_of_some _ h1)
  have n0 : ∀ {B : Addr}, s₂.heap.get? B = none → s.heap.get? B = none := fun {B} e => k₂.kp.none e
  have zN : ∀ {B : Addr}, s₂.heap.get? B = none → Z₁ B = none := fun {B} e => by
    cases q1 : Z₁ B with
    | none => rfl
    | some o => have := k₂.sat.frz B o q1; rw [e] at this; cases this
  have hN : ∀ {B : Addr}, s₂.heap.get? B = none → H₁ B = none := fun {B} e => by
    cases q1 : H₁ B with
    | none => rfl
    | some o => obtain ⟨_, _, _, e', _⟩ := k₂.sat.obj B o q1; rw [e] at e'; cases e'
  have dI : D ≠ I := fun h => by rw [h, eI] at d2; cases d2
  have cI : C ≠ I := fun h => by rw [h, eI] at c2; cases c2
  have kp₃ : Kp s₂ { s₂ with heap := h₁, toks := s₂.toks + ([] : List (Str × Value)).length } := ⟨h₁, _, rfl, old⟩
  have c₀ : Cs h₀ env loc Z H s I D C Z₁ H₁ [] { s₂ with heap := h₁, toks := s₂.toks + ([] : List (Str × Value)).length } :=
    ⟨k₂.sat.keeps old, k₂.kp.trans kp₃, k₁.fz, k₁.fh, ⟨[], 0, hDat, .nil⟩, ⟨_, hns₁⟩, hIs, n0 d2, n0 c2, dI, cI, hCneD, zI, zN d2, zN c2, hI₁, hN d2, hN c2, ⟨oI, old I oI eI⟩, S⟩
  have frozen : ∀ b ∈ fp, b ≠ I → (∃ o, Z₁ b = some o) ∨ ∃ l, H₁ b = some l := fun b hb hne => by
    rcases hfp b hb with h | h
    · exact absurd h hne
    · cases va with
      | tup z r => cases h; exact .inl ⟨_, z⟩
      | lst z r => cases h; exact .inl ⟨_, z⟩
      | rng z => cases h; exact .inl ⟨_, z⟩
      | ref a =>
        cases h
        change (H₁ b).map (·.xs) = some xs at hit
        cases q1 : H₁ b with
        | none => rw [q1] at hit; cases hit
        | some l => exact .inr ⟨l, rfl⟩
      | raw v => cases hit
      | obj z _ _ => cases hit
      | _ => cases h
  have hst₁ : Sp 0 h₁ := Wk.walks.frame _ _ _ hst fun b _ o e => old b o e
  have nI : ∀ b, b ≠ I → b ∉ wr := fun b hb hm => by rw [hwr] at hm; exact hb (List.mem_singleton.mp hm)
  have fpIn : ∀ b ∈ fp, b ≠ I → ∃ o, s'.heap.get? b = some o := fun b hb hne => by
    rcases frozen b hb hne with ⟨o, z⟩ | ⟨l, hl⟩
    · exact ⟨o, k₁.sat.frz b o z⟩
    · obtain ⟨_, _, _, e, _⟩ := k₁.sat.obj b l hl; exact ⟨_, e⟩
  have loop : ∀ s₃ : Shared, s₃ = { s₂ with heap := h₁, toks := s₂.toks + ([] : List (Str × Value)).length } →
      codeAny (model prog w) A (.compLoop (.ListComp elt [⟨t, iter, ifs, 0⟩] scope pos) 0 (.ref I) (.ref D) (compEnvC scope cl C env)) (RR (.ref D) C) s₃ := by
    rintro s₃ rfl
    refine codeAny_compLoop_tests (fun k s₄ => ∃ i Z' H' ps, Cs h₀ env loc Z H s I D C Z' H' ps s₄ ∧ Sp i s₄.heap ∧ Zle Z₁ Z' ∧ (∀ b o, s'.heap.get? b = some o → s₄.heap.get? b = some o) ∧ i ≤ xs.length ∧ ps.length ≤ i ∧ k = xs.length - i ∧ compW fa ft fe (capLoc caps loc) (xs.drop i) ps H' Q) ?_ xs.length
      ⟨0, Z₁, H₁, [], c₀, hst₁, Zle.refl _, fun b o e => old b o (kp.get e), Nat.zero_le _, Nat.le_refl _, rfl, f⟩ (fun v => htg _ v)
    rintro k s₄ ⟨i, Z', H', ps, c, hst', hle, hkeep, hi, hpl, rfl, f'⟩
    by_cases hlt : i < xs.length
    · refine Wk.walks.item i s₄ _ _ hlt hst' fun v h' tk hP hst₅ hk₅ => ?_
      obtain ⟨p, hp, vp⟩ := Wk.item i v hP
      have hd : xs.drop i = p :: xs.drop (i + 1) := by
        rw [List.drop_eq_getElem_cons hlt]
        congr 1
        have := List.getElem?_eq_getElem hlt
        rw [this] at hp; exact Option.some.inj hp
      rw [hd] at f'
      obtain ⟨ys, kk, eD, rD⟩ := c.lst
      obtain ⟨m, hm⟩ := c.ns
      have c₁ : Cs h₀ env loc Z H s I D C Z' H' ps { s₄ with heap := h', toks := tk } :=
        c.turn (.inl rfl) (fun b o hb e => hk₅ b o (nI b hb) e) ⟨ys, kk, hk₅ D _ (nI D c.di) eD, rD⟩ ⟨m, hm.at' fun o e => hk₅ C o (nI C c.ci) e⟩ (hlive _ _ hst₅)
      have keep₁ : ∀ b o, s'.heap.get? b = some o → h'.get? b = some o := fun b o e => hk₅ b o (nI b fun h => by rw [h, hI] at e; cases e) (hkeep b o e)
      obtain ⟨m₁, hm₁⟩ := c₁.ns
      have Sb := c₁.sat.block cp hm₁ c₁.zc
      refine ha C A Z' (capLoc caps loc) H' _ p v _ _ _ rm.hd Sb (vp.mono hle) f' fun loc₂ s₅ sa f₂ => ?_
      obtain ⟨h₅, t₅, e₅⟩ := sa.sh
      have kp₅ : ∀ b o, b ≠ C → h'.get? b = some o → h₅.get? b = some o := fun b o hb e => by have := sa.kp b o hb e; rw [e₅] at this; exact this
      have n₅ : ∃ m, h₅.Ns C m := by obtain ⟨m, hm, _⟩ := sa.sat.ns; rw [e₅] at hm; exact ⟨m, hm⟩
      obtain ⟨oI₁, eI₁⟩ := c₁.li
      obtain ⟨ys₁, kk₁, eD₁, rD₁⟩ := c₁.lst
      have c₂ : Cs h₀ env loc Z H s I D C Z' H' ps s₅ := by
        rw [e₅]
        exact c₁.turn (.inr (.inr rfl)) (fun b o hb e => kp₅ b o hb e) ⟨ys₁, kk₁, kp₅ D _ (Ne.symm c.cd) eD₁, rD₁⟩ n₅ ⟨oI₁, kp₅ I oI₁ (Ne.symm c.ci) eI₁⟩
      have notC : ∀ b o, s'.heap.get? b = some o → b ≠ C := fun b o e h => by have := kp.get e; rw [h, c2] at this; cases this
      have notD : ∀ b o, s'.heap.get? b = some o → b ≠ D := fun b o e h => by have := kp.get e; rw [h, d2] at this; cases this
      have keep₂ : ∀ b o, s'.heap.get? b = some o → s₅.heap.get? b = some o := fun b o e => by rw [e₅]; exact kp₅ b o (notC b o e) (keep₁ b o e)
      have st₂ : Sp (i + 1) s₅.heap := by
        refine Wk.walks.frame (i + 1) h' s₅.heap hst₅ fun b hb o e => ?_
        rw [e₅]
        refine kp₅ b o (fun h => ?_) e
        by_cases hbI : b = I
        · rw [hbI] at h; exact c.ci h.symm
        · obtain ⟨o', eo⟩ := fpIn b hb hbI
          exact notC b o' eo h
      refine ht C A Z' loc₂ H' s₅ _ _ _ rm sa.sat f₂ fun ok Z₃ H₃ s₆ k₃ f₃ => ?_
      have c₃ := c₂.pure k₃
      have st₃ : Sp (i + 1) s₆.heap := Wk.walks.frame _ _ _ st₂ fun b _ o e => k₃.kp.get e
      have keep₃ : ∀ b o, s'.heap.get? b = some o → s₆.heap.get? b = some o := fun b o e => k₃.kp.get (keep₂ b o e)
      cases ok with
      | false =>
        rw [if_neg (by decide)]
        exact ⟨xs.length - (i + 1), by omega, i + 1, Z₃, H₃, ps, c₃, st₃, hle.trans k₃.fz.1, keep₃, hlt, by omega, rfl, f₃⟩
      | true =>
        rw [if_pos rfl]
        refine he C A Z₃ loc₂ H₃ s₆ _ _ _ rm (fun b o e => c₃.kp.get e) k₃.sat f₃ fun y py Z₄ H₄ s₇ k₄ vy f₄ => ?_
        have c₄ := c₃.pure k₄
        have st₄ : Sp (i + 1) s₇.heap := Wk.walks.frame _ _ _ st₃ fun b _ o e => k₄.kp.get e
        have keep₄ : ∀ b o, s'.heap.get? b = some o → s₇.heap.get? b = some o := fun b o e => k₄.kp.get (keep₃ b o e)
        obtain ⟨ys₄, kk₄, eD₄, rD₄⟩ := c₄.lst
        refine wpAny_list_append_plain (items := ys₄.toArray) ⟨kk₄, eD₄⟩ (fun h₈ hl₈ hs₈ => ?_) (by rw [List.size_toArray, rD₄.length]; omega)
        obtain ⟨k₈, e₈⟩ := hl₈
        have ks : ∀ b o, b ≠ D → s₇.heap.get? b = some o → h₈.get? b = some o := fun b o hb e => hs₈.extBut b o hb e
        obtain ⟨m₄, hm₄⟩ := c₄.ns
        obtain ⟨oI₄, eI₄⟩ := c₄.li
        have c₅ : Cs h₀ env loc Z H s I D C Z₄ H₄ (ps ++ [py]) { s₇ with heap := h₈, toks := s₇.toks } :=
          c₄.turn (.inr (.inl rfl)) ks ⟨ys₄ ++ [y], k₈, by rw [e₈]; simp, rD₄.append (.cons vy .nil)⟩ ⟨m₄, hm₄.at' fun o e => ks C o c.cd e⟩ ⟨oI₄, ks I oI₄ (Ne.symm c.di) eI₄⟩
        refine ⟨xs.length - (i + 1), by omega, i + 1, Z₄, H₄, ps ++ [py], c₅, ?_, (hle.trans k₃.fz.1).trans k₄.fz.1, fun b o e => ks b o (notD b o e) (keep₄ b o e), hlt, by simp; omega, rfl, f₄⟩
        refine Wk.walks.frame (i + 1) s₇.heap h₈ st₄ fun b hb o e => ks b o (fun h => ?_) e
        by_cases hbI : b = I
        · rw [hbI] at h; exact c.di h.symm
        · obtain ⟨o', eo⟩ := fpIn b hb hbI
          exact notD b o' eo h
    · have hin : i = xs.length := by omega
      subst hin
      refine Wk.walks.done s₄ _ _ hst' fun h' tk hk₅ => ?_
      rw [List.drop_length] at f'
      have cE : Ce h₀ env loc Z H s D C Z' H' ps { s₄ with heap := h', toks := tk } := c.fin fun b o hb e => hk₅ b o (nI b hb) e
      exact hRR D C Z' H' ps _ cE f'
  exact codeAny_compStart_list (loop _ rfl) (Wk.walks.self 0 _ _ _ hst₁ (loop _ rfl))
end
end
end Mine
end
section
namespace Mine
section
variable {K : Frag} {h₀ : Heap} {prog : Program} {w : World} {n : Nat} {env : Env} {loc : Loc} {Z Z' : Zm} {H H' : LH} {h h' : Heap} {s s' : Shared}
theorem Sat.but {B : Addr} (S : Sat h₀ Z env loc H h) (hk : ∀ b o, b ≠ B → h.get? b = some o → h'.get? b = some o) (hL : env.locals ≠ B) (hC : ∀ m c, (m, c) ∈ env.cells → c ≠ B) (hZ : Z B = none) (hH : H B = none) : Sat h₀ Z env loc H h' := by
  refine ⟨S.base, fun a o e => hk a o (fun h => by rw [h, hZ] at e; cases e) (S.frz a o e), S.nsZ, ?_, S.cellN, S.kind, ?_, fun a l e => ?_⟩
  · intro m x hm
    obtain ⟨z, w', o, e, d⟩ := S.cellZ m x hm
    exact ⟨z, w', o, hk x o (hC m x hm) e, d⟩
  · obtain ⟨m, hm, hl⟩ := S.ns
    refine ⟨m, hm.at' fun o e => hk _ o hL e, fun y p e => ?_⟩
    cases hl y p e with
    | loc v a b c => exact .loc v a b c
    | cell x v a b d g =>
      obtain ⟨o, eo, d'⟩ := d
      exact .cell x v a b ⟨o, hk x o (hC _ x (mem_of_lookup b)) eo, d'⟩ g
  · obtain ⟨z, vs, k, e', r⟩ := S.obj a l e
    exact ⟨z, vs, k, hk a _ (fun h => by rw [h, hH] at e; cases e) e', r⟩
theorem Sat.addFrozen {D : Addr} {o : Obj} (S : Sat h₀ Z env loc H h) (ho : h.get? D = some o) (hL : env.locals ≠ D) (hC : ∀ m c, (m, c) ∈ env.cells → c ≠ D) (hZ : Z D = none) (hH : H D = none) : Sat h₀ (Z.set D o) env loc H h := by
  refine S.freeze (Zm.le_set o hZ) ?_ ?_ ?_ ?_
  · intro b o' e
    unfold Zm.set at e
    by_cases hb : b = D
    · rw [if_pos hb] at e; cases e; rw [hb]; exact ho
    · rw [if_neg hb] at e; exact S.frz b o' e
  · unfold Zm.set; rw [if_neg hL]; exact S.nsZ
  · intro m c hm; unfold Zm.set; rw [if_neg (hC m c hm)]; exact (S.cellZ m c hm).1
  · intro a l e; unfold Zm.set; rw [if_neg (fun h => by rw [h, hH] at e; cases e)]; exact (S.obj a l e).1
theorem Sat.addList {D : Addr} {vs : List Value} {k : Nat} {l : LO} (S : Sat h₀ Z env loc H h) (ho : h.get? D = some { cls := .type "list", data := .seq vs.toArray k }) (hZ : Z D = none) (hv : VRs Z l.xs vs) : Sat h₀ Z env loc (H.set D l) h where
  base := S.base
  frz := S.frz
  nsZ := S.nsZ
  cellZ := S.cellZ
  cellN := S.cellN
  kind := S.kind
  ns := S.ns
  obj := fun b l' e => by
    by_cases hb : b = D
    · subst hb
      rw [LH.set_self] at e; cases e
      exact ⟨hZ, vs, k, ho, hv⟩
    · rw [LH.set_ne _ _ hb] at e
      exact S.obj b l' e
theorem FreshH.set {D : Addr} {l : LO} (f : FreshH s H H') (hD : H' D = none) (h0 : s.heap.get? D = none) : FreshH s H (H'.set D l) :=
  ⟨fun a l' e => by
    have := f.1 a l' e
    rw [LH.set_ne _ _ (fun h => by rw [h, hD] at this; cases this)]; exact this, fun a h1 h2 => by
    by_cases ha : a = D
    · rw [ha]; exact h0
    · rw [LH.set_ne _ _ ha] at h2; exact f.2 a h1 h2⟩
theorem Fresh.set {D : Addr} {o : Obj} (f : Fresh s Z Z') (hD : Z' D = none) (h0 : s.heap.get? D = none) : Fresh s Z (Z'.set D o) :=
  ⟨f.1.trans (Zm.le_set o hD), fun a h1 h2 => by
    by_cases ha : a = D
    · rw [ha]; exact h0
    · unfold Zm.set at h2; rw [if_neg ha] at h2; exact f.2 a h1 h2⟩
/-- the list of a comprehension, had by value or by address -/
theorem Ce.done {D C : Addr} {ps : List PV} {Q : PV → LH → Prop} {Q' : Value → Shared → Prop} (c : Ce h₀ env loc Z H s D C Z' H' ps s') (S : Sat h₀ Z env loc H s.heap) (hs : ∀ b o, b ≠ C → s'.heap.get? b = some o → h'.get? b = some o) (f : listW ps H' Q)
    (q : ∀ v p Z' H' s', Ke h₀ env loc Z H s Z' H' s' → VR Z' p v → Q p H' → Q' v s') : Q' (.ref D) { s' with heap := h' } := by
  obtain ⟨oL, eL⟩ := S.nsAt
  have lD : env.locals ≠ D := fun h => by rw [h, c.d0] at eL; cases eL
  have lC : env.locals ≠ C := fun h => by rw [h, c.c0] at eL; cases eL
  have xD : ∀ m x, (m, x) ∈ env.cells → x ≠ D := fun m x hm h => by obtain ⟨_, _, o, e, _⟩ := S.cellZ m x hm; rw [h, c.d0] at e; cases e
  have xC : ∀ m x, (m, x) ∈ env.cells → x ≠ C := fun m x hm h => by obtain ⟨_, _, o, e, _⟩ := S.cellZ m x hm; rw [h, c.c0] at e; cases e
  have S₁ : Sat h₀ Z' env loc H' h' := c.sat.but hs lC xC c.zc c.hc
  obtain ⟨ys, k, e, r⟩ := c.lst
  have eD := hs D _ (Ne.symm c.cd) e
  have kp : Kp s { s' with heap := h' } := by
    obtain ⟨hh, tk, rfl, kk⟩ := c.kp
    exact ⟨h', tk, rfl, fun b o eb => hs b o (fun hb => by rw [hb, c.c0] at eb; cases eb) (kk b o eb)⟩
  rcases f with f | f
  · exact q _ _ _ _ _ ⟨S₁.addFrozen eD lD xD c.zd c.hd, kp, c.fz.set c.zd c.d0, c.fh⟩ (.lst (Zm.set_self _ _ _) (r.mono (Zm.le_set _ c.zd))) f
  · exact q _ _ _ _ _ ⟨S₁.addList (l := ⟨true, ps⟩) eD c.zd r, kp, c.fz, c.fh.set c.hd c.d0⟩ (.ref D) (f D c.hd)
theorem ev_comp {elt t iter : Expr} {ifs : List Expr} {scope : Scope} {cl : List (Str × Addr)} {caps : List String} {pos : Pos} {fi : ET} {fa : PV → St → (St → Prop) → Prop} {ft : BT} {fe : ET}
    (hi : EvOk h₀ prog w n env iter fi) (hclos : closureFor scope env = pure cl) (cp : Caps env scope cl caps) (hcell : ∀ y ∈ scope.names, y.2 ≠ .cell) (hnames : ∀ y ∈ scope.names, y.2 = .local → scope.names.lookup y.1 = some .local)
    (ha : ∀ C, AcOk h₀ prog w (compEnvC scope cl C env) t fa) (ht : ∀ C, TsOk h₀ prog w n (compEnvC scope cl C env) ifs ft) (he : ∀ C, EvOk h₀ prog w n (compEnvC scope cl C env) elt fe)
    (htg : ∀ i v, letOwnedTupleGo t i v = pure () := by intro _ _; rfl) (hs : ∀ x, foldedSetIterable iter env x = pure x := by intro _; rfl) :
    EvOk h₀ prog w n env (.ListComp elt [⟨t, iter, ifs, 0⟩] scope pos) (fun σ Q => fi σ fun a H₁ => ∃ xs, iterOf H₁ a = some xs ∧ xs.length ≤ sizeLine ∧ compW fa ft fe (capLoc caps σ.loc) xs [] H₁ fun ps H₂ => listW ps H₂ Q) := by
  intro A Z loc H s Q Q' E rm S f q
  rw [eval_ListComp]
  refine wpAny_comprehension_free (use := none) rfl hs hclos cp.kind hnames (hi A Z loc H s _ _ _ rm S f fun x a Z₁ H₁ s₁ k₁ va f₁ => ?_)
  obtain ⟨xs, hit, hsz, f₁⟩ := f₁
  refine iter_ok rm k₁.sat va hit fun I fp wr P Sp s₂ Wk kp hst hI hlive hwr hfp _ => ?_
  refine comp_loop (RR := fun acc C => compPost (model prog w) A E none Q' acc C) rm k₁ S va hit hsz Wk kp hst hI hlive hwr hfp cp hcell ha ht (fun C => (he C).at) htg f₁ ?_
  intro D C Z' H' ps s₃ c fq
  obtain ⟨m, hm⟩ := c.ns
  exact ⟨m, hm, fun h' hs' => c.done S (fun b o hb e => hs'.extBut b o hb e) fq q⟩
end
end Mine
end
section
namespace Mine
section
variable {K : Frag} {h₀ : Heap} {prog : Program} {w : World} {env : Env} {pos : Pos}
theorem nm_len (G : Gr K h₀) (e : nsIn K mainGlobals (Str.ofString "len") = some none) (hx : env.kindOf (Str.ofString "len") = some .globalImplicit) (hg : env.globals = mainGlobals) (hb : env.builtins = builtinsNs) : NmOk h₀ prog w env (.Name (Str.ofString "len") pos) (.builtin "len") :=
  nm_boot G e (by decide +kernel) (by decide) hx hg hb (by decide)
theorem nm_chr (G : Gr K h₀) (e : nsIn K mainGlobals (Str.ofString "chr") = some none) (hx : env.kindOf (Str.ofString "chr") = some .globalImplicit) (hg : env.globals = mainGlobals) (hb : env.builtins = builtinsNs) : NmOk h₀ prog w env (.Name (Str.ofString "chr") pos) (.builtin "chr") :=
  nm_boot G e (by decide +kernel) (by decide) hx hg hb (by decide)
theorem nm_abs (G : Gr K h₀) (e : nsIn K mainGlobals (Str.ofString "abs") = some none) (hx : env.kindOf (Str.ofString "abs") = some .globalImplicit) (hg : env.globals = mainGlobals) (hb : env.builtins = builtinsNs) : NmOk h₀ prog w env (.Name (Str.ofString "abs") pos) (.builtin "abs") :=
  nm_boot G e (by decide +kernel) (by decide) hx hg hb (by decide)
theorem nm_range (G : Gr K h₀) (e : nsIn K mainGlobals (Str.ofString "range") = some none) (hx : env.kindOf (Str.ofString "range") = some .globalImplicit) (hg : env.globals = mainGlobals) (hb : env.builtins = builtinsNs) : NmOk h₀ prog w env (.Name (Str.ofString "range") pos) (.type "range") :=
  nm_boot G e (by decide +kernel) (by decide) hx hg hb (by decide)
end
end Mine
end
section
namespace Mine
/-- a def of the text's, its parameters, its body as a transformer -/
def Fn (K : Frag) (w : World) (f : Addr) (names : List String) (n : Nat) (Fb : XT) : Prop :=
  keepIn K (.ref f) = true ∧ ∀ (h₀ : Heap) (prog : Program) (env : Env), Gr K h₀ → ∀ loc Z H s ps vs, Sat h₀ Z env loc H s.heap → VRs Z ps vs → OpOk h₀ prog w (n + 1) env loc Z H s (call (.ref f) vs) (fun Q => ps.length = names.length ∧ callW names Fb ps H Q)
theorem Fn.intro {K : Frag} {w : World} {n : Nat} {name qual : Str} {params : Arguments} {body : List Stmt} {scope : Scope} {dV kV doc pm cdv ct oc : Value} {an od : Option Addr} {osl : Array (Option Value)} {f : Addr} {names : List String} {Fb : XT}
    (ho : K.lookup f = some ⟨oc, od, .func (fnOf name qual params body scope dV kV doc pm an cdv ct), osl⟩) (hcd : codeIn K cdv qual = true) (hkp : keepIn K (.ref f) = true)
    (hco : scope.isCoroutine = false) (hgen : scope.isGenerator = false) (hk : scope.kind = .function)
    (hbind : ∀ s vs, vs.length = names.length → BindsTo s (fnOf name qual params body scope dV kV doc pm an cdv ct) ⟨vs, []⟩ ((names.map Str.ofString).zip vs))
    (hkind : (names.all fun y => scope.names.lookup (Str.ofString y) == some .local || scope.names.lookup (Str.ofString y) == some .cell) = true) (hnn : names.Nodup) (hnd : ((cellsFrom 0 scope.names []).map (·.1)).Nodup)
    (hb : ∀ h₀ prog, Gr K h₀ → ∀ L', XsOk h₀ prog w n (envOfC qual scope L' f cdv) body Fb) : Fn K w f names n Fb :=
  ⟨hkp, fun h₀ prog env G => fn_ok G ho hcd hco hgen hk hbind hkind hnn hnd (hb h₀ prog G)⟩
/-- a call of it -/
theorem ev_fn {K : Frag} {h₀ : Heap} {prog : Program} {w : World} {n k : Nat} {env : Env} {x : Str} {f : Addr} {names : List String} {Fb : XT} {p pos : Pos} {e : Expr} {rest : List Expr} {F : EsT} (G : Gr K h₀) (hf : Fn K w f names k Fb)
    (hn : nsIn K mainGlobals x = some (some (.ref f))) (hx : env.kindOf x = some .globalImplicit) (hg : env.globals = mainGlobals) (hd : (x == ("__debug__" : Str)) = false) (hkn : k + 1 ≤ n) (hes : EsOk h₀ prog w n env (e :: rest) F)
    (hs : starEach (e :: rest) env = (false, eval e env) :: starEach rest env := by rfl) (hp : (backTo pos (starEach rest env)).any (·.1) = false := by rfl)
    (he : eval (.Call (.Name x p) (e :: rest) [] pos) env = (do callWith pos (← eval (.Name x p) env) [] (backTo pos (starEach (e :: rest) env)) (backToKw pos (keywordEach [] env))) := by rfl) :
    EvOk h₀ prog w n env (.Call (.Name x p) (e :: rest) [] pos) (fun σ Q => F σ fun ps H₁ => ps.length = names.length ∧ callW names Fb ps H₁ Q) :=
  ev_call (W := fun ps H₁ Q => ps.length = names.length ∧ callW names Fb ps H₁ Q) (nm_glob G hn hx hg hd) (kpr_K G hf.1) hes (fun loc Z H s ps vs S v A Q Q' E rm f' q => hf.2 h₀ prog env G loc Z H s ps vs S v A Q Q' E (rm.le hkn) f' q) hs hp he
theorem bind2 {s : Shared} {fd : FuncData} {x y : Str} (h : ∀ a b, bindArgs fd ⟨[a, b], []⟩ = pure [(x, a), (y, b)]) : ∀ vs : List Value, vs.length = 2 → BindsTo s fd ⟨vs, []⟩ ([x, y].zip vs)
  | [a, b], _ => BindsTo.of_eq (h a b)
theorem bind1 {s : Shared} {fd : FuncData} {x : Str} (h : ∀ a, bindArgs fd ⟨[a], []⟩ = pure [(x, a)]) : ∀ vs : List Value, vs.length = 1 → BindsTo s fd ⟨vs, []⟩ ([x].zip vs)
  | [a], _ => BindsTo.of_eq (h a)
theorem bind4 {s : Shared} {fd : FuncData} {x y z u : Str} (h : ∀ a b c d, bindArgs fd ⟨[a, b, c, d], []⟩ = pure [(x, a), (y, b), (z, c), (u, d)]) : ∀ vs : List Value, vs.length = 4 → BindsTo s fd ⟨vs, []⟩ ([x, y, z, u].zip vs)
  | [a, b, c, d], _ => BindsTo.of_eq (h a b c d)
end Mine
end
section
namespace Mine
theorem forW_inv {fa : PV → St → (St → Prop) → Prop} {fb : XT} {Q : Fl → St → Prop} (I : List PV → St → Prop)
    (step : ∀ p r σ (K : Fl → St → Prop), I (p :: r) σ → (∀ σ', I r σ' → K .next σ') → (∀ σ', I r σ' → K .cont σ') → fa p σ fun σ₁ => fb σ₁ K)
    (fin : ∀ σ, I [] σ → Q .next σ) : ∀ xs σ, I xs σ → forW fa fb xs σ Q
  | [], σ, h => fin σ h
  | p :: r, σ, h => step p r σ _ h (fun σ' h' => forW_inv I step fin r σ' h') (fun σ' h' => forW_inv I step fin r σ' h')
theorem whileW_inv' {ft : BT} {fb : XT} {Q : Fl → St → Prop} (I : Nat → St → Prop)
    (step : ∀ k σ (K : Fl → St → Prop), I k σ → (∀ k' σ', k' < k → I k' σ' → K .next σ') → (∀ k' σ', k' < k → I k' σ' → K .cont σ') → ft σ fun c H₁ => if c then fb ⟨σ.loc, H₁⟩ K else Q .next ⟨σ.loc, H₁⟩) :
    ∀ n k σ, k < n → I k σ → whileW ft fb n σ (fun fl σ => Q fl σ)
  | 0, k, σ, hk, h => absurd hk (Nat.not_lt_zero k)
  | n + 1, k, σ, hk, h => step k σ _ h (fun k' σ' hk' h' => whileW_inv' I step n k' σ' (by omega) h') (fun k' σ' hk' h' => whileW_inv' I step n k' σ' (by omega) h')
theorem whileW_inv {ft : BT} {fb : XT} {Q : Fl → St → Prop} (I : Nat → St → Prop)
    (step : ∀ k σ (K : Fl → St → Prop), I k σ → (∀ k' σ', k' < k → I k' σ' → K .next σ') → (∀ k' σ', k' < k → I k' σ' → K .cont σ') → ft σ fun c H₁ => if c then fb ⟨σ.loc, H₁⟩ K else Q .next ⟨σ.loc, H₁⟩)
    (k : Nat) (σ : St) (h : I k σ) : ∃ n, whileW ft fb n σ Q := ⟨k + 1, whileW_inv' I step (k + 1) k σ (Nat.lt_succ_self k) h⟩
theorem compW_eval {fa : PV → St → (St → Prop) → Prop} {ft : BT} {fe : ET} {cap : Loc} (t : PV → Bool) (g : PV → PV) {H : LH} {Q : List PV → LH → Prop} : ∀ (xs acc : List PV),
    (∀ p ∈ xs, ∀ (R1 : PV → LH → Prop) (R2 : LH → Prop), (if t p then R1 (g p) H else R2 H) → fa p ⟨cap, H⟩ fun σ => ft σ fun c H₁ => if c then fe ⟨σ.loc, H₁⟩ R1 else R2 H₁) →
    Q (acc ++ (xs.filter t).map g) H → compW fa ft fe cap xs acc H Q
  | [], acc, _, h => by simpa [compW] using h
  | p :: r, acc, step, h => by
    unfold compW
    refine step p List.mem_cons_self _ _ ?_
    have ih := fun acc' => compW_eval (fa := fa) (ft := ft) (fe := fe) (cap := cap) t g (H := H) (Q := Q) r acc' fun p' hp' => step p' (List.mem_cons_of_mem _ hp')
    cases hp : t p with
    | true =>
      rw [if_pos rfl]
      refine ih _ ?_
      simpa [List.filter_cons, hp] using h
    | false =>
      rw [if_neg (by decide)]
      refine ih _ ?_
      simpa [List.filter_cons, hp] using h
/-- a comprehension without a test -/
theorem compW_map {fa : PV → St → (St → Prop) → Prop} {fe : ET} {cap : Loc} (g : PV → PV) {H : LH} {Q : List PV → LH → Prop} (xs : List PV)
    (step : ∀ p ∈ xs, ∀ (R1 : PV → LH → Prop), R1 (g p) H → fa p ⟨cap, H⟩ fun σ => fe ⟨σ.loc, σ.H⟩ R1)
    (h : Q (xs.map g) H) : compW fa (fun σ Q => Q true σ.H) fe cap xs [] H Q := by
  refine compW_eval (fun _ => true) g xs [] (fun p hp R1 R2 hr => ?_) (by rw [List.filter_eq_self.mpr (fun _ _ => rfl)]; simpa using h)
  rw [if_pos rfl] at hr
  simpa using step p hp R1 hr
theorem Loc.set_apply (l : Loc) (x y : String) (v : PV) : l.set x v y = if y = x then some v else l y := rfl
theorem argLoc_cons (x : String) (xs : List String) (p : PV) (ps : List PV) (y : String) : argLoc (x :: xs) (p :: ps) y = if y = x then some p else argLoc xs ps y := rfl
theorem argLoc_nil (y : String) : argLoc [] [] y = none := rfl
def mkS (l : List Nat) : Str := ⟨l.toArray⟩
theorem mkS_len (l : List Nat) : (mkS l).length = l.length := by simp [mkS, Str.length]
theorem mkS_append (a b : List Nat) : mkS a ++ mkS b = mkS (a ++ b) := Str.ext' (by rw [Str.cps_append]; simp [mkS])
theorem mkS_inj {a b : List Nat} (h : mkS a = mkS b) : a = b := by
  have := congrArg (fun s => s.cps.toList) h
  simpa [mkS] using this
theorem mkS_beq (a b : List Nat) : (mkS a == mkS b) = (a == b) := by
  rw [Bool.eq_iff_iff, beq_iff_eq, beq_iff_eq]
  exact ⟨mkS_inj, fun h => by rw [h]⟩
theorem scut_mk (l : List Nat) (lo hi : Option Int) : scut (mkS l) lo hi = mkS (cut l lo hi) := by simp [scut, mkS]
theorem iterOf_rng {H : LH} {a b c : Int} (h : Builtin.Range.small a b c = true) : iterOf H (.rng a b c) = some ((rngInts a b c).map .int) := by simp [iterOf, h]
end Mine
end
section
namespace Mine
section
variable {K : Frag} {h₀ : Heap} {prog : Program} {w : World} {n : Nat} {env : Env}
/-- a list that may be changed is changed -/
theorem Sk.setList {loc : Loc} {Z : Zm} {H : LH} {s : Shared} {h' : Heap} {tk : Nat} {l : Addr} {xs ys : List PV} {vs : List Value} {k : Nat} (S : Sat h₀ Z env loc H s.heap) (hl : H l = some ⟨true, xs⟩)
    (hs : Heap.SameBut l s.heap h') (ho : h'.get? l = some { cls := .type "list", data := .seq vs.toArray k }) (hv : VRs Z ys vs) : Sk h₀ env loc Z H s loc Z (H.set l ⟨true, ys⟩) { s with heap := h', toks := tk } := by
  obtain ⟨zl, ws, kk, eo, _⟩ := S.obj l _ hl
  have hL : env.locals ≠ l := fun h => by
    obtain ⟨m, ⟨o', es, ep, e', d', _⟩, _⟩ := S.ns
    rw [h, eo] at e'; cases e'; cases d'
  have hC : ∀ m c, (m, c) ∈ env.cells → c ≠ l := fun m c hm h => by
    obtain ⟨_, w', o, e, d⟩ := S.cellZ m c hm
    rw [h, eo] at e; cases e; cases d
  have ks : ∀ b o, b ≠ l → s.heap.get? b = some o → h'.get? b = some o := fun b o hb e => hs.extBut b o hb e
  refine ⟨⟨S.base, fun a o e => ks a o (fun h => by rw [h, zl] at e; cases e) (S.frz a o e), S.nsZ, ?_, S.cellN, S.kind, ?_, fun a l' e => ?_⟩, ⟨h', tk, rfl⟩, fun b o e _ _ h3 => ks b o (fun h => h3 xs (by rw [h]; exact hl)) e, fun b o e => ?_, Fresh.refl s Z, fun a l' e => ?_⟩
  · intro m x hm
    obtain ⟨z, w', o, e, d⟩ := S.cellZ m x hm
    exact ⟨z, w', o, ks x o (hC m x hm) e, d⟩
  · obtain ⟨m, hm, hl'⟩ := S.ns
    refine ⟨m, hm.at' fun o e => ks _ o hL e, fun y p e => ?_⟩
    cases hl' y p e with
    | loc v a b c => exact .loc v a b c
    | cell x v a b d g =>
      obtain ⟨o, eo', d'⟩ := d
      exact .cell x v a b ⟨o, ks x o (hC _ x (mem_of_lookup b)) eo', d'⟩ g
  · by_cases ha : a = l
    · subst ha
      rw [LH.set_self] at e; cases e
      exact ⟨zl, vs, k, ho, hv⟩
    · rw [LH.set_ne _ _ ha] at e
      obtain ⟨z, us, k', e', r⟩ := S.obj a l' e
      exact ⟨z, us, k', ks a _ ha e', r⟩
  · by_cases hb : b = l
    · rw [hb]; exact ⟨_, ho⟩
    · exact ⟨o, ks b o hb e⟩
  · by_cases ha : a = l
    · subst ha
      exact .inl ⟨_, hl, fun _ => rfl⟩
    · rw [LH.set_ne _ _ ha] at e
      exact .inl ⟨l', e, fun h => h⟩
theorem st_append {o e : Expr} {apos p pos : Pos} {fo fe : ET} {pl : Sem Bool} (ho : EvOk h₀ prog w n env o fo) (he : EvOk h₀ prog w n env e fe)
    (hm : eval (.Call (.Attribute o (Str.ofString "append") apos) [e] [] p) env = (do
      let ov ← eval o env
      standAt apos.atName
      let (f, first) ← holding [ov] (getMethod ov (Str.ofString "append") pl)
      callWith p f first (backTo p (starEach [e] env)) []) := by rfl)
    (hs : starEach [e] env = (false, eval e env) :: starEach [] env := by rfl) (hi : interactive env = false := by rfl) (hw : swapsWith (.Call (.Attribute o (Str.ofString "append") apos) [e] [] p) none pos.line env = pure false := by rfl) :
    ExOk h₀ prog w n env (.Expr (.Call (.Attribute o (Str.ofString "append") apos) [e] [] p) pos)
      (fun σ Q => fo σ fun a H₁ => ∃ l z, a = .ref l ∧ H₁ l = some z ∧ fe ⟨σ.loc, H₁⟩ fun b H₂ => ∃ xs, H₂ l = some ⟨true, xs⟩ ∧ xs.length ≤ sizeLine ∧ Q .next ⟨σ.loc, H₂.set l ⟨true, xs ++ [b]⟩⟩) := by
  intro A Z loc H s Q Q' E rm S f q
  refine wpAny_Expr (MethodCall_ (pl := pl) (ho A Z loc H s _ _ _ rm S f fun x a Z₁ H₁ s₁ k₁ va f₁ => ?_) hm) hi hw
  obtain ⟨l, z, rfl, hz, f₁⟩ := f₁
  cases va with
  | ref _ =>
    obtain ⟨_, vs, k, eo, _⟩ := k₁.sat.obj l z hz
    refine getMethod_builtin ⟨_, eo, rfl⟩ PySem.F.plainAttrs_list PySem.F.slot_list_append PySem.F.type_list_append (fun a e => by cases e; exact ⟨_, eo, rfl⟩) ?_
    have hes : EsOk h₀ prog w n env [e] (fun σ Q => fe σ fun a H₁ => Q [a] H₁) := by
      intro A Z loc H s pos Q Q' E rm S f q
      exact (es_cons (fr := fun σ Q => Q [] σ.H) he es_nil hs) A Z loc H s pos Q Q' E rm S f q
    refine callWith_ok (Q := fun ps H₂ => match ps with | [b] => ∃ xs, H₂ l = some ⟨true, xs⟩ ∧ xs.length ≤ sizeLine ∧ Q .next ⟨loc, H₂.set l ⟨true, xs ++ [b]⟩⟩ | _ => False) (kpr_builtin _) hes rm k₁.sat f₁ (fun us ps Z₂ H₂ s₂ k₂ vu f₂ => ?_) hs rfl
    cases vu with
    | nil => exact f₂.elim
    | cons vb r =>
      cases r with
      | cons _ _ => exact f₂.elim
      | nil =>
      obtain ⟨xs, hx, hsz, f₂⟩ := f₂
      obtain ⟨z₂, ws, k', eo₂, rr⟩ := k₂.sat.obj l _ hx
      refine wpAny_list_append_plain (items := ws.toArray) ⟨k', eo₂⟩ (fun h' hl' hs' => ?_) (by rw [List.size_toArray, rr.length]; exact hsz)
      obtain ⟨k'', e''⟩ := hl'
      have K := Sk.setList (tk := s₂.toks) k₂.sat hx hs' (vs := ws ++ [_]) (k := k'') (by rw [e'']; simp) (rr.append (.cons vb .nil))
      exact q _ _ _ _ _ _ ((k₁.trans k₂).sk.trans K) .next f₂
end
end Mine
end
section
namespace Mine
section
variable {K : Frag} {prog : Program} {w : World} {A : Around}
/-- a def without cells is entered, arguments as they come -/
theorem enter_raw {s : Shared} {R : Result → Shared → Prop} {name qual : Str} {params : Arguments} {body : List Stmt} {scope : Scope} {dV kV doc pm cdv ct oc : Value} {an od : Option Addr} {osl : Array (Option Value)} {f : Addr} {args : Args} {binds : List (Str × Value)}
    (X : K.In s.heap) (NL : s.heap.NoLimit) (ho : K.lookup f = some ⟨oc, od, .func (fnOf name qual params body scope dV kV doc pm an cdv ct), osl⟩) (hcd : codeIn K cdv qual = true)
    (hco : scope.isCoroutine = false) (hgen : scope.isGenerator = false) (hk : scope.kind = .function)
    (hbind : BindsTo s (fnOf name qual params body scope dV kV doc pm an cdv ct) args binds) (hcell : ∀ x ∈ scope.names, x.2 ≠ .cell) (hloc : ∀ x ∈ binds, scope.names.lookup x.1 = some .local)
    (hroom : A.depth < recursionLimit)
    (h : ∀ h₁, h₁.Ns s.heap.objs.size (fun x => binds.reverse.lookup x) → (∀ b o, s.heap.get? b = some o → h₁.get? b = some o) →
      wpAny (model prog w) (A.deeper (envOf qual scope s.heap.objs.size f cdv)) (execs body (envOf qual scope s.heap.objs.size f cdv)) (fun fl s' => R (.ok (.ret (match fl with | .ret v => v | _ => .none))) s')
        (fun e s' => wpAny (model prog w) (A.deeper (envOf qual scope s.heap.objs.size f cdv)) (leaving (envOf qual scope s.heap.objs.size f cdv) e) (fun _ s'' => R (.error e) s'') (fun e' s'' => R (.error e') s'') s')
        { s with heap := h₁, toks := s.toks + binds.length }) :
    codeAny (model prog w) A (.call (.ref f) args) R s :=
  codeAny_call_def hroom (X _ _ ho) rfl NL (codeRec_of X hcd) rfl hbind hcell hloc h hco hgen hk
/-- an attribute of a new instance is set from a name -/
theorem init_store {E : Value → Shared → Prop} {Q : Flow → Shared → Prop} {env : Env} {s : Shared} {g : Heap} {m : Str → Option Value} {x C dx : Addr} {es : List DictEntry} {n : Nat} {y z name : Str} {py pz pa pos : Pos} {v : Value} {rest : List Stmt}
    (F : Fr g env.locals s.heap m) (X₀ : K.In g) (N : News g env.locals s.heap [(x, instObj C dx), (dx, dictOf es n)]) (hne : x ≠ dx)
    (hk : env.scope.kind = .function) (hyl : env.kindOf y = some .local) (hym : m y = some v) (hyd : (y == ("__debug__" : Str)) = false) (hzl : env.kindOf z = some .local) (hzm : m z = some (.ref x)) (hzd : (z == ("__debug__" : Str)) = false)
    (hs : findIn K (.ref C) "__setattr__" = some (some (.builtin "object.__setattr__"))) (hp : plainOver K C = true) (ht : takerIn K C name = some none) (hh : hasDictIn K C = true) (hl : (getL name es).isSome = true)
    (e : ∀ hsh t, (putL name hsh (.str name t) v es, putN name es n) = (es ++ [⟨hsh, .str name t, v⟩], n + 1)) (hlen : es.length ≤ 900)
    (h : ∀ h' hsh t tk, Fr g env.locals h' m → News g env.locals h' [(x, instObj C dx), (dx, dictOf (es ++ [⟨hsh, .str name t, v⟩]) (n + 1))] → wpAny (model prog w) A (execs rest env) Q E { s with heap := h', toks := tk })
    (hsw : swapsWith (.Name y py) (some (.Attribute (.Name z pz) name pa)) pos.line env = pure false) :
    wpAny (model prog w) A (execs (.Assign [.Attribute (.Name z pz) name pa] (.Name y py) pos :: rest) env) Q E s := by
  refine wpAny_execs_cons (plainObj_wpAny_Assign_Attribute (wpAny_Name (wpAny_loadName_local hk hyl F.ns hym (wpAny_Name (wpAny_loadName_local hk hzl F.ns hzm ?_) hzd)) hyd) hsw)
  refine set_dict (m := m) (news := [(x, instObj C dx), (dx, dictOf es n)]) F X₀ N (InstAt.of_news N (.head _) (.tail _ (.head _))) rfl hs hp ht hh hl (e _ _) (.tail hne (.head (fun _ h => nomatch h))) (by simp; omega) fun h' F' N' => ?_
  exact h h' _ _ _ F' N'
end
end Mine
end
section
namespace Mine
section
variable {h₀ : Heap} {prog : Program} {w : World} {n : Nat} {env : Env}
theorem VR.objInv {Z : Zm} {C : Addr} {fs : List (String × PV)} {v : Value} (h : VR Z (.obj C fs) v) : ∃ x dx es k, v = .ref x ∧ Z x = some (instObj C dx) ∧ Z dx = some (dictOf es k) ∧ FRs Z fs es := by
  cases h with
  | obj a b c => exact ⟨_, _, _, _, rfl, a, b, c⟩
end
end Mine
end
section
namespace Mine
section
variable {h₀ : Heap} {prog : Program} {w : World} {env : Env} {p : Program} {loose : List Str} {mean : ExcName → Option Value} {mg mb : Str → Option Value}
end
end Mine
end
section
namespace Mine
section
variable {h₀ : Heap} {env : Env}
theorem XsOk.use {prog : Program} {w : World} {n : Nat} {body : List Stmt} {F : XT} {A : Around} {Z : Zm} {loc : Loc} {H : LH} {s : Shared} {Q : Fl → St → Prop} {Q' : Flow → Shared → Prop} {E : Value → Shared → Prop} (h : XsOk h₀ prog w n env body F) (rm : Rm n A) (S : Sat h₀ Z env loc H s.heap) (f : F ⟨loc, H⟩ Q)
    (q : ∀ fl p loc' Z' H' s', Sk h₀ env loc Z H s loc' Z' H' s' → FlR Z' p fl → Q p ⟨loc', H'⟩ → Q' fl s') : wpAny (model prog w) A (execs body env) Q' E s := h A Z loc H s Q Q' E rm S f q
end
end Mine
end
section
namespace Mine
section
variable {h₀ : Heap} {env : Env}
theorem VRs.ints {Z : Zm} : ∀ {vs : List Value} {ws : List Int}, IntsAre vs ws → VRs Z (ws.map .int) vs
  | _, _, .nil => .nil
  | _, _, .cons n t r => .cons (.int n t) (VRs.ints r)
theorem ints_of_well {P : Params} {h : Heap} : ∀ {ws : List Int} {vs : List Value}, WellAll P h vs (ofPys (ws.map PyData.int)) → IntsAre vs ws
  | [], _, x => by cases x; exact .nil
  | n :: ws, _, x => by
    cases x with
    | cons a r =>
      cases a with
      | int _ t => exact .cons n t (ints_of_well r)
def startLoc (ws : List Int) : Loc := fun y => if y = "script" then some (.lst (ws.map .int)) else none
theorem start_ok {g h₁ : Heap} {m : Str → Option Value} {a : Addr} {vs : List Value} {ws : List Int} {k : Nat} (F : Fr g env.locals h₁ m) (hk : env.scope.kind = .function) (hc : ∀ n c, (n, c) ∈ env.cells → g.get? c = none ∧ ∃ w, h₁.IsCell c w) (hn : (env.cells.map (·.2)).Nodup)
    (hl : env.kindOf (Str.ofString "script") = some .local) (hm : m (Str.ofString "script") = some (.ref a)) (ha : g.get? a = some { cls := .type "list", data := .seq vs.toArray k }) (hI : IntsAre vs ws) :
    Sat g (fun a => g.get? a) env (startLoc ws) (fun _ => none) h₁ where
  base := fun _ _ e => e
  frz := F.keep
  nsZ := Heap.get?_none_of_le F.above
  cellZ := hc
  cellN := hn
  kind := hk
  ns := ⟨m, F.ns, fun x p e => by
    unfold startLoc at e
    by_cases hx : x = "script"
    · subst hx
      rw [if_pos rfl] at e; cases e
      exact .loc _ hl hm (.lst ha (VRs.ints hI))
    · rw [if_neg hx] at e; cases e⟩
  obj := fun _ _ e => by cases e
end
end Mine
end
section
namespace Mine
section
variable {H : LH} {Q : PV → LH → Prop} {i j : Int} {xs ys : List PV} {x y : Str} {a b : Addr} {l l' : LO} {p : PV}
theorem bin_addI (h : Q (.int (i + j)) H) : binW .Add (.int i) (.int j) H Q := h
theorem bin_subI (h : Q (.int (i - j)) H) : binW .Sub (.int i) (.int j) H Q := h
theorem bin_mulI (h0 : IntMulOk i j) (h : Q (.int (i * j)) H) : binW .Mult (.int i) (.int j) H Q := ⟨h0, h⟩
theorem bin_modI (h0 : j ≠ 0) (h : Q (.int (i.fmod j)) H) : binW .Mod (.int i) (.int j) H Q := ⟨h0, h⟩
theorem bin_divI (h0 : j ≠ 0) (h1 : j.natAbs < 1073741824) (h : Q (.int (i.fdiv j)) H) : binW .FloorDiv (.int i) (.int j) H Q := ⟨⟨h0, h1⟩, h⟩
theorem bin_addS (h0 : x.length + y.length ≤ sizeLine) (h : Q (.str (x ++ y)) H) : binW .Add (.str x) (.str y) H Q := ⟨h0, h⟩
theorem bin_addLL (h0 : xs.length + ys.length ≤ sizeLine) (h : listW (xs ++ ys) H Q) : binW .Add (.lst xs) (.lst ys) H Q := ⟨xs, ys, rfl, rfl, h0, h⟩
theorem in_addI (h : Q (.int (i + j)) H) : inW .Add (.int i) (.int j) H Q := h
theorem in_addS (h0 : x.length + y.length ≤ sizeLine) (h : Q (.str (x ++ y)) H) : inW .Add (.str x) (.str y) H Q := ⟨h0, h⟩
theorem seqIndex_nat {k n : Nat} (h : k < n) : seqIndex? (k : Int) n = some k := by
  unfold seqIndex?; simp; omega
theorem seqIndex_neg1 {n : Nat} (h : 0 < n) : seqIndex? (-1) n = some (n - 1) := by
  unfold seqIndex?; simp; omega
theorem idx_L {k : Nat} (hp : xs[k]? = some p) (hb : xs.length < 2 ^ 62) (h : Q p H) : idxW (.lst xs) (.int (k : Int)) H Q := by
  have hk := (List.getElem?_eq_some_iff.mp hp).1
  exact ⟨by omega, xs, p, rfl, by rw [seqIndex_nat hk]; exact hp, h⟩
theorem idx_Llast (hp : xs[xs.length - 1]? = some p) (h : Q p H) : idxW (.lst xs) (.int (-1)) H Q := by
  have hk := (List.getElem?_eq_some_iff.mp hp).1
  exact ⟨by decide, xs, p, rfl, by rw [seqIndex_neg1 (by omega)]; exact hp, h⟩
theorem len_L (hb : xs.length < 2 ^ 62) (h : Q (.int xs.length) H) : lenOp [.lst xs] H Q := ⟨_, rfl, xs, rfl, hb, h⟩
theorem len_S (hb : x.length < 2 ^ 62) (h : Q (.int x.length) H) : lenOp [.str x] H Q := ⟨_, rfl, hb, h⟩
theorem cut_L {lo hi : Option Int} (hb : xs.length ≤ sizeLine) (h : listW (cut xs lo hi) H Q) : cutW (.lst xs) lo hi H Q := ⟨xs, rfl, hb, h⟩
theorem cut_S {lo hi : Option Int} (hb : x.length ≤ sizeLine) (h : Q (.str (scut x lo hi)) H) : cutW (.str x) lo hi H Q := ⟨hb, h⟩
theorem cmp_eqI {R : Bool → Prop} (h : R (i == j)) : cmpW .Eq (.int i) (.int j) H R := h
theorem cmp_ltI {R : Bool → Prop} (h : R (decide (i < j))) : cmpW .Lt (.int i) (.int j) H R := h
theorem cmp_leI {R : Bool → Prop} (h : R (decide (i ≤ j))) : cmpW .LtE (.int i) (.int j) H R := h
theorem cmp_eqS {R : Bool → Prop} (h : R (x == y)) : cmpW .Eq (.str x) (.str y) H R := h
theorem cmp_neS {R : Bool → Prop} (h : R (x != y)) : cmpW .NotEq (.str x) (.str y) H R := h
theorem get_W {o : Option PV} {k : PV → Prop} (e : o = some p) (h : k p) : getW o k := ⟨p, e, h⟩
end
section
variable {h₀ : Heap} {env : Env} {prog : Program} {w : World} {n : Nat}
end
end Mine
end
section
namespace Mine
/-- the blanks for a tab at a column -/
def xtB (size : Int) (col : Nat) : Nat := if size > 0 then size.toNat - col % size.toNat else 0
def xtStep (size : Int) (s : Array Nat × Nat) (c : Nat) : Array Nat × Nat := if c = 9 then (s.1 ++ Array.replicate (xtB size s.2) 32, s.2 + xtB size s.2) else (s.1.push c, if c = 10 ∨ c = 13 then 0 else s.2 + 1)
def xtTab (size : Int) (x : Str) : Str := ⟨(x.cps.toList.foldl (xtStep size) (#[], 0)).1⟩
end Mine
end
section
namespace Mine
section
variable {prog : Program} {w : World} {A : Around} {E : Value → Shared → Prop} {s : Shared} {env : Env} {Q : Value → Shared → Prop} {o : Expr} {apos pos p1 p2 : Pos} {k1 k2 : Nat}
end
end Mine
end
section
namespace Mine
section
variable {h₀ : Heap} {prog : Program} {w : World} {n : Nat} {env : Env}
/-- a method of a text's, with arguments -/
theorem ev_smeth {o : Expr} {name : Str} {apos pos : Pos} {e : Expr} {rest : List Expr} {id : String} {fo : ET} {F : EsT} {W : Str → List PV → LH → (PV → LH → Prop) → Prop} (pl : Sem Bool)
    (hget : ∀ (A : Around) (E : Value → Shared → Prop) (s : Shared) (x : Str) (t : Tok) (Q : Value × List Value → Shared → Prop), Q (.builtin id, [.str x t]) s → wpAny (model prog w) A (getMethod (.str x t) name pl) Q E s)
    (hop : ∀ (loc : Loc) (Z : Zm) (H : LH) (s : Shared) (x : Str) (t : Tok) (ps : List PV) (vs : List Value), Sat h₀ Z env loc H s.heap → VRs Z ps vs → OpOk h₀ prog w n env loc Z H s (call (.builtin id) (.str x t :: vs)) (W x ps H))
    (ho : EvOk h₀ prog w n env o fo) (hes : EsOk h₀ prog w n env (e :: rest) F)
    (he : eval (.Call (.Attribute o name apos) (e :: rest) [] pos) env = (do
      let ov ← eval o env
      standAt apos.atName
      let (f, first) ← holding [ov] (getMethod ov name pl)
      callWith pos f first (backTo pos (starEach (e :: rest) env)) []))
    (hs : starEach (e :: rest) env = (false, eval e env) :: starEach rest env) (hp : (backTo pos (starEach rest env)).any (·.1) = false) :
    EvOk h₀ prog w n env (.Call (.Attribute o name apos) (e :: rest) [] pos) (fun σ Q => fo σ fun a H₁ => ∃ x, a = .str x ∧ F ⟨σ.loc, H₁⟩ fun ps H₂ => W x ps H₂ Q) := by
  intro A Z loc H s Q Q' E rm S f q
  refine MethodCall_ (pl := pl) (ho A Z loc H s _ _ _ rm S f fun v a Z₁ H₁ s₁ k₁ va f₁ => ?_) he
  obtain ⟨x, rfl, f₁⟩ := f₁
  cases va with
  | str _ t =>
    refine hget A _ s₁ x t _ ?_
    refine callWith_ok (first := [.str x t]) (kpr_builtin id) hes rm k₁.sat f₁ (fun vs ps Z' H' s' k v f' => ?_) hs hp
    exact hop loc Z' H' s' x t ps vs k.sat v A Q Q' E rm f' fun _ _ _ _ _ k' v' f'' => q _ _ _ _ _ (k₁.trans (k.trans k')) v' f''
def countW (x : Str) (ps : List PV) (H : LH) (Q : PV → LH → Prop) : Prop := ∃ y, ps = [.str y] ∧ Q (.int (Txt.count x y)) H
theorem count_ok (loc : Loc) (Z : Zm) (H : LH) (s : Shared) (x : Str) (t : Tok) (ps : List PV) (vs : List Value) (S : Sat h₀ Z env loc H s.heap) (v : VRs Z ps vs) : OpOk h₀ prog w n env loc Z H s (call (.builtin "str.count") (.str x t :: vs)) (countW x ps H) := by
  rintro A Q Q' E rm ⟨y, rfl, f⟩ q
  cases v with
  | cons a r =>
    cases r
    cases a with
    | str _ u => exact SC.count (q _ _ _ _ _ (Ke.toks S _) (.int _ _) f)
theorem VRs.strs {Z : Zm} : ∀ (l : List (Str × Tok)), VRs Z ((l.map (·.1)).map .str) (strValues l)
  | [] => .nil
  | p :: l => .cons (.str _ _) (VRs.strs l)
def splitW (x : Str) (ps : List PV) (H : LH) (Q : PV → LH → Prop) : Prop := ∃ y, ps = [.str y] ∧ (y.length == 0) = false ∧ x.length ≤ sizeLine ∧ (Builtin.Str.partsBetween x (Builtin.Str.occurrences x y 0 x.length (x.length + 1)) y.length).length ≤ sizeLine ∧ listW ((Txt.split x y).map .str) H Q
theorem split_ok (loc : Loc) (Z : Zm) (H : LH) (s : Shared) (x : Str) (t : Tok) (ps : List PV) (vs : List Value) (S : Sat h₀ Z env loc H s.heap) (v : VRs Z ps vs) : OpOk h₀ prog w n env loc Z H s (call (.builtin "str.split") (.str x t :: vs)) (splitW x ps H) := by
  rintro A Q Q' E rm ⟨y, rfl, hy, hsz, hsz2, f⟩ q
  cases v with
  | cons a r =>
    cases r
    cases a with
    | str _ u =>
      have fin : ∀ (l : List (Str × Tok)) (tk : Nat), l.map (·.1) = Txt.split x y → Q' (.ref s.heap.objs.size) { s with toks := tk, heap := s.heap.push { cls := .type "list", data := .seq (strValues l).toArray } } := fun l tk hl => by
        refine list_new S f q ⟨_, _, rfl, fun _ _ e => Heap.get?_push_of_some _ e⟩ (get_size _) (Heap.get?_push_size _ rfl) ?_
        rw [← hl]; exact VRs.strs l
      cases h1 : (decide (x.length < y.length) || decide (Builtin.Str.strKind x < Builtin.Str.strKind y))
      · cases hf : (Builtin.Str.occurrences x y 0 x.length (x.length + 1)).isEmpty
        · refine call_meets F.slot_str_split (typeIs_str _ _ _) F.entry_str_split (F.args_str_split_2 _ _) (meets_str_split_sep x y t u h1 hy hf hsz hsz2) ?_
          show wants Q' E _ { s with toks := _, heap := s.heap.push { cls := .type "list", data := .seq (strsFrom s.toks (Builtin.Str.partsBetween x (Builtin.Str.occurrences x y 0 x.length (x.length + 1)) y.length)).toArray } }
          rw [strsFrom_eq]
          exact fin (numbered s.toks _) _ ((numbered_texts _ _).trans ((if_neg (ne_true_of_eq_false h1)).trans (if_neg (ne_true_of_eq_false hf))).symm)
        · exact call_meets F.slot_str_split (typeIs_str _ _ _) F.entry_str_split (F.args_str_split_2 _ _) (meets_str_split_not_found x y t u h1 hy hf)
            (fin [(x, t)] _ ((if_neg (ne_true_of_eq_false h1)).trans (if_pos hf)).symm)
      · exact call_meets F.slot_str_split (typeIs_str _ _ _) F.entry_str_split (F.args_str_split_2 _ _) (meets_str_split_cannot_occur x y t u h1)
          (fin [(x, t)] _ (if_pos h1).symm)
end
end Mine
end
section
namespace Mine
theorem VRs.intsInv {Z : Zm} : ∀ {ws : List Int} {vs : List Value}, VRs Z (ws.map .int) vs → IntsAre vs ws
  | [], _, h => by cases h; exact .nil
  | n :: ws, _, h => by
    cases h with
    | cons a r => cases a with | int _ t => exact .cons n t (VRs.intsInv r)
theorem index_ok {prog : Program} {w : World} {A : Around} {E : Value → Shared → Prop} {s : Shared} {l : Addr} {vs : List Value} {nn : Nat} {ws : List Int} {k : Int} {t : Tok} {Q : Value → Shared → Prop} (ho : s.heap.get? l = some { cls := .type "list", data := .seq vs.toArray nn }) (hi : IntsAre vs ws)
    (hb : ws.length ≤ 1000) (hk : k ∈ ws) (h : Q (.int (ws.idxOf k : Nat) s.toks) { s with toks := s.toks + 1 }) : wpAny (model prog w) A (call (.builtin "list.index") [.ref l, .int k t]) Q E s := by
  have hj : ws.idxOf k < ws.length := List.idxOf_lt_length_iff.mpr hk
  have hlen := hi.length
  refine call_meets PySem.F.slot_list_index ⟨_, ho, rfl⟩ PySem.F.entry_list_index (PySem.F.args_list_index_2 _ _)
    (SeqAt.list_indexAt l vs.toArray nn none #[] (.int k t) (isInt k) (ws.idxOf k) (by simp; omega) (by omega) ?_ ?_) ⟨ho, fun y hy => (eq_isInt k t hi y (by simpa using hy)).at _ _, h⟩
  · show isInt k vs[ws.idxOf k] = true
    rw [isInt_at k hi _ (by omega) hj, beq_iff_eq]
    exact List.getElem_idxOf hj
  · intro j hjs hlt
    show isInt k vs[j] = false
    rw [isInt_at k hi j (by simpa using hjs) (by omega)]
    have := List.not_of_lt_findIdx (p := fun x => x == k) hlt
    simpa using this
section
variable {h₀ : Heap} {prog : Program} {w : World} {n : Nat} {env : Env}
/-- l.index(k) -/
theorem ev_index {o e : Expr} {apos pos : Pos} {fo fe : ET} (pl : Sem Bool) (ho : EvOk h₀ prog w n env o fo) (he : EvOk h₀ prog w n env e fe)
    (hm : eval (.Call (.Attribute o (Str.ofString "index") apos) [e] [] pos) env = (do
      let ov ← eval o env
      standAt apos.atName
      let (f, first) ← holding [ov] (getMethod ov (Str.ofString "index") pl)
      callWith pos f first (backTo pos (starEach [e] env)) []))
    (hs : starEach [e] env = (false, eval e env) :: starEach [] env) :
    EvOk h₀ prog w n env (.Call (.Attribute o (Str.ofString "index") apos) [e] [] pos)
      (fun σ Q => fo σ fun a H₁ => ∃ ws : List Int, a = .lst (ws.map .int) ∧ fe ⟨σ.loc, H₁⟩ fun b H₂ => ∃ k, b = .int k ∧ k ∈ ws ∧ ws.length ≤ 1000 ∧ Q (.int (ws.idxOf k : Nat)) H₂) := by
  intro A Z loc H s Q Q' E rm S f q
  refine MethodCall_ (pl := pl) (ho A Z loc H s _ _ _ rm S f fun x a Z₁ H₁ s₁ k₁ va f₁ => ?_) hm
  obtain ⟨ws, rfl, f₁⟩ := f₁
  cases va with
  | lst z r =>
    rename_i l vs k
    have eo := k₁.sat.frz _ _ z
    refine getMethod_builtin ⟨_, eo, rfl⟩ PySem.F.plainAttrs_list PySem.F.slot_list_index PySem.F.type_list_index (fun a e => by cases e; exact ⟨_, eo, rfl⟩) ?_
    have hes : EsOk h₀ prog w n env [e] (fun σ Q => fe σ fun a H₁ => Q [a] H₁) := by
      intro A Z loc H s pos Q Q' E rm S f q
      exact (es_cons (fr := fun σ Q => Q [] σ.H) he es_nil hs) A Z loc H s pos Q Q' E rm S f q
    refine callWith_ok (Q := fun ps H₂ => match ps with | [b] => ∃ k, b = .int k ∧ k ∈ ws ∧ ws.length ≤ 1000 ∧ Q (.int (ws.idxOf k : Nat)) H₂ | _ => False) (kpr_builtin _) hes rm k₁.sat f₁ (fun us ps Z₂ H₂ s₂ k₂ vu f₂ => ?_) hs rfl
    cases vu with
    | nil => exact f₂.elim
    | cons vb r' =>
      cases r' with
      | cons _ _ => exact f₂.elim
      | nil =>
        obtain ⟨k, rfl, hk, hlen, f₂⟩ := f₂
        cases vb with
        | int _ t =>
          exact index_ok (k₂.sat.frz _ _ (k₂.fz.1 _ _ z)) (VRs.intsInv r) hlen hk (q _ _ _ _ _ ((k₁.trans k₂).trans (Ke.toks k₂.sat _)) (.int _ _) f₂)
end
end Mine
end
section
namespace Mine
theorem FRs.get {Z : Zm} {f : String} {p : PV} : ∀ {fs : List (String × PV)} {es : List DictEntry}, FRs Z fs es → fs.lookup f = some p → ∃ v, getL (Str.ofString f) es = some (some v) ∧ VR Z p v ∧ handedIn v = true
  | _, _, .nil, h => by cases h
  | (g, x) :: fs, _, .cons (v := v) a b c, h => by
    rw [List.lookup_cons] at h
    by_cases e : f = g
    · subst e
      simp only [beq_self_eq_true] at h
      cases h
      refine ⟨v, ?_, a, b⟩
      unfold getL
      rw [List.find?_cons_of_pos (by simp [Value.isStr])]
    · have e' : (f == g) = false := by simpa using e
      rw [e'] at h
      obtain ⟨v', hv, r⟩ := FRs.get c h
      refine ⟨v', ?_, r⟩
      unfold getL at hv ⊢
      rw [List.find?_cons_of_neg (by simp [Value.isStr]; exact fun h => e (ofString_inj h.symm))]
      split at hv
      · exact hv
      · split at hv
        · cases hv
        · cases hv
theorem FRs.not {Z : Zm} {f : String} : ∀ {fs : List (String × PV)} {es : List DictEntry}, FRs Z fs es → fs.lookup f = none → getL (Str.ofString f) es = some none
  | _, _, .nil, h => rfl
  | (g, x) :: fs, _, .cons (v := v) a b c, h => by
    rw [List.lookup_cons] at h
    by_cases e : f = g
    · subst e
      simp only [beq_self_eq_true] at h
      cases h
    · have e' : (f == g) = false := by simpa using e
      rw [e'] at h
      have hv := FRs.not c h
      unfold getL at hv ⊢
      rw [List.find?_cons_of_neg (by simp [Value.isStr]; exact fun h => e (ofString_inj h.symm))]
      split at hv
      · cases hv
      · split at hv
        · cases hv
        · rename_i h2
          exact if_neg h2
section
variable {K : Frag} {h₀ : Heap} {prog : Program} {w : World} {n : Nat} {env : Env}
/-- x.f, x a name, f an own attribute of an instance of C -/
theorem ev_attr {C : Addr} {x f : String} {np pos : Pos} {attr : Option Value} (G : Gr K h₀) (hd : (Str.ofString x == ("__debug__" : Str)) = false) (hn : (Str.ofString x == ("__classdict__" : Str)) = false)
    (hg : plainGet K C (Str.ofString f) = true) (hh : hasDictIn K C = true) (ha : findIn K (.ref C) (Str.ofString f) = some attr) (hng : noGet K attr = true) :
    EvOk h₀ prog w n env (.Attribute (.Name (Str.ofString x) np) (Str.ofString f) pos) (fun σ Q => getW (σ.loc x) fun a => ∃ fs p, a = .obj C fs ∧ fs.lookup f = some p ∧ Q p σ.H) := by
  intro A Z loc H s Q Q' E rm S fq q
  obtain ⟨p, e, fs, p', rfl, hp, fq⟩ := fq
  refine Attribute_name (wpAny_Name (load_ok S e (fun v hv => ?_) hn) hd)
  obtain ⟨y, dx, es, kk, rfl, zx, zdx, fr⟩ := hv.objInv
  obtain ⟨v, hl, vr, hv⟩ := fr.get hp
  have I : InstAt s.heap y (instObj C dx) C (some (dictOf es kk)) := ⟨S.frz _ _ zx, rfl, rfl, S.frz _ _ zdx⟩
  exact get_value (G.X.keeps S.keep) I (plainGet_of hg).1 (findObj_own hh ha hng hl) hv (q _ _ _ _ _ (Ke.toks S _) vr fq)
/-- an operation that may change lists -/
def MOp (h₀ : Heap) (prog : Program) (w : World) (n : Nat) (env : Env) (loc : Loc) (Z : Zm) (H : LH) (s : Shared) (t : Sem Value) (W : (PV → LH → Prop) → Prop) : Prop :=
  ∀ (A : Around) (Q : PV → LH → Prop) (Q' : Value → Shared → Prop) (E : Value → Shared → Prop), Rm n A → W Q →
    (∀ v p Z' H' s', Sk h₀ env loc Z H s loc Z' H' s' → VR Z' p v → Q p H' → Q' v s') → wpAny (model prog w) A t Q' E s
theorem Sk.of_callee {Z Z' : Zm} {env' : Env} {loc loc' loc'' : Loc} {H H' : LH} {s s₁ s₂ : Shared} (S : Sat h₀ Z env loc H s.heap) (hkp : Kp s s₁) (Kc : Sk h₀ env' loc' Z H s₁ loc'' Z' H' s₂)
    (hL : s.heap.get? env'.locals = none) (hC : ∀ n c, (n, c) ∈ env'.cells → s.heap.get? c = none) : Sk h₀ env loc Z H s loc Z' H' s₂ := by
  have hall : ∀ b o, s.heap.get? b = some o → (∀ xs, H b ≠ some ⟨true, xs⟩) → s₂.heap.get? b = some o := fun b o e h => by
    refine Kc.frm b o (hkp.get e) ?_ ?_ h
    · intro h; rw [h, hL] at e; cases e
    · intro m hm; rw [hC m b hm] at e; cases e
  have noH : ∀ b o, s.heap.get? b = some o → (∀ vs k, o ≠ { cls := .type "list", data := .seq vs k }) → H b = none := fun b o e h => by
    cases q : H b with
    | none => rfl
    | some l => obtain ⟨_, vs, k, e', _⟩ := S.obj b l q; rw [e] at e'; cases e'; exact absurd rfl (h _ _)
  have hcell : ∀ m c, (m, c) ∈ env.cells → ∀ o, s.heap.get? c = some o → s₂.heap.get? c = some o := fun m c hm o e => by
    obtain ⟨_, w', oc, ec, d⟩ := S.cellZ m c hm
    rw [e] at ec; cases ec
    refine hall c _ e fun xs hx => ?_
    rw [noH c _ e (fun vs k h => by rw [h] at d; cases d)] at hx; cases hx
  have hns : ∀ o, s.heap.get? env.locals = some o → s₂.heap.get? env.locals = some o := fun o e => by
    obtain ⟨m, ⟨o', es, ep, e', d', _⟩, _⟩ := S.ns
    rw [e] at e'; cases e'
    refine hall _ _ e fun xs hx => ?_
    rw [noH _ _ e (fun vs k h => by rw [h] at d'; cases d')] at hx; cases hx
  refine ⟨⟨Kc.sat.base, Kc.sat.frz, ?_, ?_, S.cellN, S.kind, ?_, Kc.sat.obj⟩, ?_, fun b o e _ _ h3 => hall b o e h3, ?_, ?_, ?_⟩
  · obtain ⟨o, e⟩ := S.nsAt
    exact Kc.noZ (hkp.get e) S.nsZ
  · intro m c hm
    obtain ⟨z, w', o, e, d⟩ := S.cellZ m c hm
    exact ⟨Kc.noZ (hkp.get e) z, w', o, hcell m c hm o e, d⟩
  · obtain ⟨m, hm, hl⟩ := S.ns
    refine ⟨m, hm.at' fun o e => hns o e, fun y p e => ?_⟩
    cases hl y p e with
    | loc v a b c => exact .loc v a b (c.mono Kc.fz.1)
    | cell x v a b d g =>
      obtain ⟨o, eo', d'⟩ := d
      exact .cell x v a b ⟨o, hcell _ x (mem_of_lookup b) o eo', d'⟩ (g.mono Kc.fz.1)
  · obtain ⟨h', tk, rfl, _⟩ := hkp
    obtain ⟨h'', tk', rfl⟩ := Kc.sh
    exact ⟨h'', tk', rfl⟩
  · exact fun b o e => Kc.live b o (hkp.get e)
  · exact ⟨Kc.fz.1, fun a h1 h2 => hkp.none (Kc.fz.2 a h1 h2)⟩
  · intro a l' e
    rcases Kc.fh a l' e with h | h
    · exact .inl h
    · exact .inr (hkp.none h)
/-- a call of a def that may change lists -/
theorem mfn_ok {name qual : Str} {params : Arguments} {body : List Stmt} {scope : Scope} {dV kV doc pm cdv ct oc : Value} {an od : Option Addr} {osl : Array (Option Value)} {f : Addr} {names : List String} {Fb : XT}
    (G : Gr K h₀) (ho : K.lookup f = some ⟨oc, od, .func (fnOf name qual params body scope dV kV doc pm an cdv ct), osl⟩) (hcd : codeIn K cdv qual = true)
    (hco : scope.isCoroutine = false) (hgen : scope.isGenerator = false) (hk : scope.kind = .function)
    (hbind : ∀ s vs, vs.length = names.length → BindsTo s (fnOf name qual params body scope dV kV doc pm an cdv ct) ⟨vs, []⟩ ((names.map Str.ofString).zip vs))
    (hkind : (names.all fun y => scope.names.lookup (Str.ofString y) == some .local || scope.names.lookup (Str.ofString y) == some .cell) = true) (hnn : names.Nodup) (hnd : ((cellsFrom 0 scope.names []).map (·.1)).Nodup)
    (hb : ∀ L', XsOk h₀ prog w n (envOfC qual scope L' f cdv) body Fb) :
    ∀ loc Z H s ps vs, Sat h₀ Z env loc H s.heap → VRs Z ps vs → MOp h₀ prog w (n + 1) env loc Z H s (call (.ref f) vs) (fun Q => ps.length = names.length ∧ Fb ⟨argLoc names ps, H⟩ fun fl σ' => Q (flVal fl) σ'.H) := by
  intro loc Z H s ps vs S hv A Q Q' E rm f q
  obtain ⟨hlen, f⟩ := f
  refine wpAny_call (enter_ok H G ho hcd hco hgen hk (hbind s vs (by rw [hv.length]; exact hlen)) hkind hnn hnd (by have := rm.dp; omega) S (fun a l e => ⟨l, e, rfl⟩) hv fun L' s₁ S₁ kp hL hC => ?_)
  refine hb L' (A.deeper _) Z (argLoc names ps) H s₁ _ _ _ (rm.deeper _) S₁ f fun fl p loc' Z' H' s₂ Kc vf f' => ?_
  have K := Sk.of_callee S kp Kc hL hC
  have hfl : VR Z' (flVal p) (flowVal fl) := vf.val
  change Q' (flowVal fl) s₂
  exact q _ _ _ _ _ K hfl f'
/-- a method that gives None, as a statement -/
theorem st_meth {C f : Addr} {o : Expr} {name : String} {apos p pos : Pos} {e : Expr} {rest : List Expr} {fo : ET} {F : EsT} {W : List PV → LH → (PV → LH → Prop) → Prop} {pl : Sem Bool} (G : Gr K h₀) (ho : EvOk h₀ prog w n env o fo) (hes : EsOk h₀ prog w n env (e :: rest) F)
    (hg : plainGet K C (Str.ofString name) = true) (hf : findIn K (.ref C) (Str.ofString name) = some (some (.ref f))) (ht : typeIn K (.ref f) = some (.type "function")) (hk : keepIn K (.ref f) = true)
    (hop : ∀ loc Z H s ps vs, Sat h₀ Z env loc H s.heap → VRs Z ps vs → MOp h₀ prog w n env loc Z H s (call (.ref f) vs) (W ps H))
    (hm : eval (.Call (.Attribute o (Str.ofString name) apos) (e :: rest) [] p) env = (do
      let ov ← eval o env
      standAt apos.atName
      let (f, first) ← holding [ov] (getMethod ov (Str.ofString name) pl)
      callWith p f first (backTo p (starEach (e :: rest) env)) []))
    (hs : starEach (e :: rest) env = (false, eval e env) :: starEach rest env) (hp : (backTo p (starEach rest env)).any (·.1) = false) (hi : interactive env = false) (hw : swapsWith (.Call (.Attribute o (Str.ofString name) apos) (e :: rest) [] p) none pos.line env = pure false) :
    ExOk h₀ prog w n env (.Expr (.Call (.Attribute o (Str.ofString name) apos) (e :: rest) [] p) pos)
      (fun σ Q => fo σ fun a H₁ => ∃ fs, a = .obj C fs ∧ fs.lookup name = none ∧ F ⟨σ.loc, H₁⟩ fun ps H₂ => W (a :: ps) H₂ fun r H₃ => r = .none ∧ Q .next ⟨σ.loc, H₃⟩) := by
  intro A Z loc H s Q Q' E rm S fq q
  refine wpAny_Expr (MethodCall_ (pl := pl) (ho A Z loc H s _ _ _ rm S fq fun x a Z₁ H₁ s₁ k₁ va f₁ => ?_) hm) hi hw
  obtain ⟨fs, rfl, hno, f₁⟩ := f₁
  obtain ⟨y, dx, es, kk, rfl, zx, zdx, fr⟩ := va.objInv
  have I : InstAt s₁.heap y (instObj C dx) C (some (dictOf es kk)) := ⟨k₁.sat.frz _ _ zx, rfl, rfl, k₁.sat.frz _ _ zdx⟩
  refine method_fn (f := f) (G.X.keeps k₁.sat.keep) I (plainGet_of hg).1 (plainGet_of hg).2 hf ht (by show (lookIn _ (dictOf es kk)).map _ = _; rw [lookIn_dict, fr.not hno]; rfl) ?_
  refine callWith_ok (first := [.ref y]) (kpr_K G hk) hes rm k₁.sat f₁ (fun vs ps Z₂ H₂ s₂ k₂ v f₂ => ?_) hs hp
  refine hop loc Z₂ H₂ s₂ (_ :: ps) (_ :: vs) k₂.sat (.cons (va.mono k₂.fz.1) v) A _ _ E rm f₂ fun v p Z₃ H₃ s₃ k₃ vr f₃ => ?_
  obtain ⟨rfl, f₃⟩ := f₃
  cases vr
  exact q _ _ _ _ _ _ ((k₁.trans k₂).sk.trans k₃) .next f₃
end
end Mine
end
section
namespace Mine
section
variable {h₀ : Heap} {prog : Program} {w : World} {n : Nat} {env : Env}
theorem VRs.two {Z : Zm} {p q : PV} {vs : List Value} (h : VRs Z [p, q] vs) : ∃ a b, vs = [a, b] ∧ VR Z p a ∧ VR Z q b := by
  cases h with
  | cons a r => cases r with | cons b r => cases r; exact ⟨_, _, rfl, a, b⟩
theorem Kp.ext {s : Shared} {h' : Heap} (he : Heap.ExtBut s.heap.objs.size s.heap h') : Kp s { s with heap := h' } :=
  ⟨h', s.toks, rfl, fun b o e => he b o (Nat.ne_of_lt (Heap.lt_size e)) e⟩
theorem unpack_at {A : Around} {E : Value → Shared → Prop} {s : Shared} {t : Addr} {items : Array Value} {k : Nat} {Q : List Value → Shared → Prop} (hh : A.handled = none) (ht : IsTup s.heap t items) (hk : k = items.size)
    (hQ : ∀ h', Heap.ExtBut s.heap.objs.size s.heap h' → Q items.toList { s with heap := h' }) : wpAny (model prog w) A (unpackItems (.ref t) k none) Q E s := by
  subst hk
  exact unpackItems_tuple hh ht hQ
theorem st_swap2 {elts : List Expr} {k} {tpos pos : Pos} {x y : String} {e : Expr} {fe : ET} (he : EvOk h₀ prog w n env e fe)
    (hs : swapsWithSole [.Tuple elts k tpos] e pos.line env = pure false) (hw : swappedStores [.Tuple elts k tpos] e env = pure (some [Str.ofString x, Str.ofString y])) (hx : Stores env x) (hy : Stores env y) :
    ExOk h₀ prog w n env (.Assign [.Tuple elts k tpos] e pos) (fun σ Q => fe σ fun a H₁ => ∃ p q, a = .tup [p, q] ∧ Q .next ⟨(σ.loc.set y q).set x p, H₁⟩) := by
  intro A Z loc H s Q Q' E rm S f q
  refine Assign_Tuple_swapped (he A Z loc H s _ _ _ rm S f fun v a Z₁ H₁ s₁ k₁ va f₁ => ?_) hs hw
  obtain ⟨p, p', rfl, f₁⟩ := f₁
  cases va with
  | tup z r =>
        rename_i t0 vs0 n0
        obtain ⟨v1, v2, rfl, va, vb⟩ := r.two
        have hT : IsTup s₁.heap t0 #[v1, v2] := ⟨_, k₁.sat.frz _ _ z, rfl, _, rfl⟩
        refine unpack_at (k := 2) rm.hd hT rfl fun h' he => ?_
        have k := Ke.keep k₁.sat (Kp.ext he)
        refine wpAny_assignInOrder_more (wpAny_bindName (store_ok k.sat vb hy fun s₂ k₂ => ?_))
        refine wpAny_assignInOrder_more (wpAny_bindName (store_ok k₂.sat va hx fun s₃ k₃ => ?_))
        exact wpAny_assignInOrder_none (q _ _ _ _ _ _ ((k₁.trans k).sk.trans (k₂.trans k₃)) .next f₁)
end
end Mine
end
section
namespace Mine
section
variable {K : Frag} {h₀ : Heap} {prog : Program} {w : World} {n : Nat} {env : Env}
theorem ev_len {p pos : Pos} {e : Expr} {rest : List Expr} {F : EsT} (G : Gr K h₀) (h1 : nsIn K mainGlobals (Str.ofString "len") = some none) (h2 : env.kindOf (Str.ofString "len") = some .globalImplicit) (h3 : env.globals = mainGlobals) (h4 : env.builtins = builtinsNs) (hes : EsOk h₀ prog w n env (e :: rest) F)
    (h5 : starEach (e :: rest) env = (false, eval e env) :: starEach rest env) (h6 : (backTo pos (starEach rest env)).any (·.1) = false)
    (h7 : eval (.Call (.Name (Str.ofString "len") p) (e :: rest) [] pos) env = (do callWith pos (← eval (.Name (Str.ofString "len") p) env) [] (backTo pos (starEach (e :: rest) env)) (backToKw pos (keywordEach [] env)))) :
    EvOk h₀ prog w n env (.Call (.Name (Str.ofString "len") p) (e :: rest) [] pos) (fun σ Q => F σ fun ps H₁ => lenOp ps H₁ Q) :=
  ev_call (fv := .builtin "len") (nm_len G h1 h2 h3 h4) (kpr_builtin _) hes len_ok h5 h6 h7
theorem ev_chr {p pos : Pos} {e : Expr} {rest : List Expr} {F : EsT} (G : Gr K h₀) (h1 : nsIn K mainGlobals (Str.ofString "chr") = some none) (h2 : env.kindOf (Str.ofString "chr") = some .globalImplicit) (h3 : env.globals = mainGlobals) (h4 : env.builtins = builtinsNs) (hes : EsOk h₀ prog w n env (e :: rest) F)
    (h5 : starEach (e :: rest) env = (false, eval e env) :: starEach rest env) (h6 : (backTo pos (starEach rest env)).any (·.1) = false)
    (h7 : eval (.Call (.Name (Str.ofString "chr") p) (e :: rest) [] pos) env = (do callWith pos (← eval (.Name (Str.ofString "chr") p) env) [] (backTo pos (starEach (e :: rest) env)) (backToKw pos (keywordEach [] env)))) :
    EvOk h₀ prog w n env (.Call (.Name (Str.ofString "chr") p) (e :: rest) [] pos) (fun σ Q => F σ fun ps H₁ => chrOp ps H₁ Q) :=
  ev_call (fv := .builtin "chr") (nm_chr G h1 h2 h3 h4) (kpr_builtin _) hes chr_ok h5 h6 h7
theorem ev_abs {p pos : Pos} {e : Expr} {rest : List Expr} {F : EsT} (G : Gr K h₀) (h1 : nsIn K mainGlobals (Str.ofString "abs") = some none) (h2 : env.kindOf (Str.ofString "abs") = some .globalImplicit) (h3 : env.globals = mainGlobals) (h4 : env.builtins = builtinsNs) (hes : EsOk h₀ prog w n env (e :: rest) F)
    (h5 : starEach (e :: rest) env = (false, eval e env) :: starEach rest env) (h6 : (backTo pos (starEach rest env)).any (·.1) = false)
    (h7 : eval (.Call (.Name (Str.ofString "abs") p) (e :: rest) [] pos) env = (do callWith pos (← eval (.Name (Str.ofString "abs") p) env) [] (backTo pos (starEach (e :: rest) env)) (backToKw pos (keywordEach [] env)))) :
    EvOk h₀ prog w n env (.Call (.Name (Str.ofString "abs") p) (e :: rest) [] pos) (fun σ Q => F σ fun ps H₁ => absOp ps H₁ Q) :=
  ev_call (fv := .builtin "abs") (nm_abs G h1 h2 h3 h4) (kpr_builtin _) hes abs_ok h5 h6 h7
theorem ev_range {p pos : Pos} {e : Expr} {rest : List Expr} {F : EsT} (G : Gr K h₀) (h1 : nsIn K mainGlobals (Str.ofString "range") = some none) (h2 : env.kindOf (Str.ofString "range") = some .globalImplicit) (h3 : env.globals = mainGlobals) (h4 : env.builtins = builtinsNs) (hes : EsOk h₀ prog w n env (e :: rest) F)
    (h5 : starEach (e :: rest) env = (false, eval e env) :: starEach rest env) (h6 : (backTo pos (starEach rest env)).any (·.1) = false)
    (h7 : eval (.Call (.Name (Str.ofString "range") p) (e :: rest) [] pos) env = (do callWith pos (← eval (.Name (Str.ofString "range") p) env) [] (backTo pos (starEach (e :: rest) env)) (backToKw pos (keywordEach [] env)))) :
    EvOk h₀ prog w n env (.Call (.Name (Str.ofString "range") p) (e :: rest) [] pos) (fun σ Q => F σ fun ps H₁ => rangeOp ps H₁ Q) :=
  ev_call (fv := .type "range") (nm_range G h1 h2 h3 h4) (kpr_type _) hes range_ok h5 h6 h7
theorem ev_count {o e : Expr} {apos pos : Pos} {rest : List Expr} {fo : ET} {F : EsT} (pl : Sem Bool) (ho : EvOk h₀ prog w n env o fo) (hes : EsOk h₀ prog w n env (e :: rest) F)
    (he : eval (.Call (.Attribute o (Str.ofString "count") apos) (e :: rest) [] pos) env = (do
      let ov ← eval o env
      standAt apos.atName
      let (f, first) ← holding [ov] (getMethod ov (Str.ofString "count") pl)
      callWith pos f first (backTo pos (starEach (e :: rest) env)) []))
    (hs : starEach (e :: rest) env = (false, eval e env) :: starEach rest env) (hp : (backTo pos (starEach rest env)).any (·.1) = false) :
    EvOk h₀ prog w n env (.Call (.Attribute o (Str.ofString "count") apos) (e :: rest) [] pos) (fun σ Q => fo σ fun a H₁ => ∃ x, a = .str x ∧ F ⟨σ.loc, H₁⟩ fun ps H₂ => countW x ps H₂ Q) :=
  ev_smeth (id := "str.count") (W := countW) pl (fun _ _ _ _ _ _ h => GM.count h) count_ok ho hes he hs hp
theorem ev_split {o e : Expr} {apos pos : Pos} {rest : List Expr} {fo : ET} {F : EsT} (pl : Sem Bool) (ho : EvOk h₀ prog w n env o fo) (hes : EsOk h₀ prog w n env (e :: rest) F)
    (he : eval (.Call (.Attribute o (Str.ofString "split") apos) (e :: rest) [] pos) env = (do
      let ov ← eval o env
      standAt apos.atName
      let (f, first) ← holding [ov] (getMethod ov (Str.ofString "split") pl)
      callWith pos f first (backTo pos (starEach (e :: rest) env)) []))
    (hs : starEach (e :: rest) env = (false, eval e env) :: starEach rest env) (hp : (backTo pos (starEach rest env)).any (·.1) = false) :
    EvOk h₀ prog w n env (.Call (.Attribute o (Str.ofString "split") apos) (e :: rest) [] pos) (fun σ Q => fo σ fun a H₁ => ∃ x, a = .str x ∧ F ⟨σ.loc, H₁⟩ fun ps H₂ => splitW x ps H₂ Q) :=
  ev_smeth (id := "str.split") (W := splitW) pl (fun _ _ _ _ _ _ h => GM.split h) split_ok ho hes he hs hp
end
end Mine
end
section
namespace Mine
mutual
/-- data that may be compared, n deep at most -/
inductive Gd (H : LH) : Nat → PV → Prop
  | none (n : Nat) : Gd H n .none
  | bool (n : Nat) (b : Bool) : Gd H n (.bool b)
  | int (n : Nat) (i : Int) : Gd H n (.int i)
  | str (n : Nat) {x : Str} : PyData.strOk x = true → Gd H n (.str x)
  | tup {n : Nat} {xs : List PV} : Gds H n xs → Gd H (n + 1) (.tup xs)
  | lst {n : Nat} {xs : List PV} : Gds H n xs → Gd H (n + 1) (.lst xs)
  | ref {n : Nat} {a : Addr} {l : LO} : H a = some l → Gds H n l.xs → Gd H (n + 1) (.ref a)
inductive Gds (H : LH) : Nat → List PV → Prop
  | nil (n : Nat) : Gds H n []
  | cons {n : Nat} {x : PV} {xs : List PV} : Gd H n x → Gds H n xs → Gds H n (x :: xs)
end
mutual
theorem Gd.data {H : LH} : ∀ {n : Nat} {p : PV}, Gd H n p → ∃ d, Dt H p d ∧ d.canLay0 = true ∧ d.depth ≤ n
  | _, _, .none _ => ⟨_, .none, rfl, Nat.zero_le _⟩
  | _, _, .bool _ b => ⟨_, .bool b, rfl, Nat.zero_le _⟩
  | _, _, .int _ i => ⟨_, .int i, rfl, Nat.zero_le _⟩
  | _, _, .str _ h => ⟨_, .str _, h, Nat.zero_le _⟩
  | _, _, .tup h => let ⟨ds, a, b, c⟩ := Gds.data h; ⟨.tuple ds, .tup a, b, Nat.succ_le_succ c⟩
  | _, _, .lst h => let ⟨ds, a, b, c⟩ := Gds.data h; ⟨.list ds, .lst a, b, Nat.succ_le_succ c⟩
  | _, _, .ref e h => let ⟨ds, a, b, c⟩ := Gds.data h; ⟨.list ds, .ref e a, b, Nat.succ_le_succ c⟩
theorem Gds.data {H : LH} : ∀ {n : Nat} {p : List PV}, Gds H n p → ∃ d, Dts H p d ∧ PyData.canLayAll0 d = true ∧ PyData.depthAll d ≤ n
  | _, _, .nil _ => ⟨_, .nil, rfl, Nat.zero_le _⟩
  | _, _, .cons x r => by
    obtain ⟨d, a, b, c⟩ := Gd.data x
    obtain ⟨ds, a', b', c'⟩ := Gds.data r
    refine ⟨d :: ds, .cons a a', ?_, ?_⟩
    · simp only [PyData.canLayAll0, b, b', Bool.and_self]
    · simp only [PyData.depthAll]; omega
end
theorem Gds.of {H : LH} {n : Nat} : ∀ {xs : List PV}, (∀ p ∈ xs, Gd H n p) → Gds H n xs
  | [], _ => .nil n
  | _ :: _, h => .cons (h _ List.mem_cons_self) (Gds.of fun p hp => h p (List.mem_cons_of_mem _ hp))
theorem shaped_of {d : PyData} {n : Nat} (hn : n ≤ 64) (h : d.canLay0 = true) (hd : d.depth ≤ n) : SeqAt.shaped d = true := by
  unfold SeqAt.shaped
  rw [h, Bool.true_and, decide_eq_true_eq]; omega
theorem same_refs {H : LH} {a b : Addr} {l l' : LO} {R : Bool → Prop} (ha : H a = some l) (hb : H b = some l') (e : l.xs = l'.xs) (hg : Gds H 60 l.xs) (h : R true) : cmpW .Eq (.ref a) (.ref b) H R := by
  obtain ⟨ds, x, y, z⟩ := hg.data
  have hc : PyData.canLay0 (.list ds) = true := y
  have hd : PyData.depth (.list ds) ≤ 61 := Nat.succ_le_succ z
  refine ⟨.list ds, .list ds, .ref ha x, .ref hb (e ▸ x), shaped_of (by decide) hc hd, shaped_of (by decide) hc hd, ?_⟩
  rw [SeqAt.eqv_refl _ hc]; exact h
theorem strOk_mk {l : List Nat} (h : ∀ c ∈ l, c < 128) : PyData.strOk (mkS l) = true := by
  unfold PyData.strOk mkS
  simp only [List.all_toArray, List.all_eq_true, decide_eq_true_eq]
  intro c hc
  have := h c hc
  omega
end Mine
end
section
namespace Mine
section
variable {h₀ : Heap} {prog : Program} {w : World} {n : Nat} {env : Env}
/-- a statement may be had by what is said of it -/
theorem ExOk.mono {st : Stmt} {F F' : XT} (h : ExOk h₀ prog w n env st F) (hm : ∀ σ Q, F' σ Q → F σ Q) : ExOk h₀ prog w n env st F' :=
  fun A Z loc H s Q Q' E rm S f q => h A Z loc H s Q Q' E rm S (hm _ Q f) q
theorem XsOk.mono {st : List Stmt} {F F' : XT} (h : XsOk h₀ prog w n env st F) (hm : ∀ σ Q, F' σ Q → F σ Q) : XsOk h₀ prog w n env st F' :=
  fun A Z loc H s Q Q' E rm S f q => h A Z loc H s Q Q' E rm S (hm _ Q f) q
end
/-- all names but these are as they were -/
def SameBut (ys : List String) (σ σ' : St) : Prop := σ'.H = σ.H ∧ ∀ y, y ∉ ys → σ'.loc y = σ.loc y
theorem SameBut.get {ys : List String} {σ σ' : St} (h : SameBut ys σ σ') {y : String} {p : PV} (hy : y ∉ ys) (e : σ.loc y = some p) : σ'.loc y = some p := (h.2 y hy).trans e
theorem SameBut.refl (ys : List String) (σ : St) : SameBut ys σ σ := ⟨rfl, fun _ _ => rfl⟩
theorem SameBut.set {ys : List String} {σ : St} {l : Loc} {H : LH} {x : String} {p : PV} (h : SameBut ys σ ⟨l, H⟩) (hx : x ∈ ys) : SameBut ys σ ⟨l.set x p, H⟩ :=
  ⟨h.1, fun y hy => by
    show (l.set x p) y = _
    have hne : y ≠ x := fun e => hy (by rw [e]; exact hx)
    rw [Loc.set_ne _ _ hne]
    exact h.2 y hy⟩
end Mine
end
section
namespace Mine
theorem toList_mk (l : List Nat) : (mkS l).cps.toList = l := by simp [mkS]
theorem count_mk (l : List Nat) (c : Nat) : Txt.count (mkS l) (mkS [c]) = (l.count c : Int) := by
  show Txt.count (mkS l) ⟨#[c]⟩ = _
  rw [PyProof.Rows.count_cnt, toList_mk]
  induction l with
  | nil => rfl
  | cons a r ih =>
    rw [cnt_cons, ih, List.count_cons]
    by_cases h : a = c
    · simp [h]; omega
    · simp [h]
/-- the parts between the c's -/
def spl (c : Nat) : List Nat → List (List Nat)
  | [] => [[]]
  | x :: r => if x = c then [] :: spl c r else match spl c r with
    | p :: ps => (x :: p) :: ps
    | [] => [[x]]
theorem spl_free (c : Nat) : ∀ p : List Nat, c ∉ p → spl c p = [p]
  | [], _ => rfl
  | x :: r, h => by
    simp only [List.mem_cons, not_or] at h
    unfold spl
    rw [if_neg (Ne.symm h.1), spl_free c r h.2]
theorem spl_app (c : Nat) (q : List Nat) : ∀ p : List Nat, c ∉ p → spl c (p ++ c :: q) = p :: spl c q
  | [], _ => by show spl c (c :: q) = _; conv => lhs; unfold spl
                rw [if_pos rfl]
  | x :: r, h => by
    simp only [List.mem_cons, not_or] at h
    show spl c (x :: (r ++ c :: q)) = _
    conv => lhs; unfold spl
    rw [if_neg (Ne.symm h.1), spl_app c q r h.2]
theorem spl_last (c : Nat) (B : List Nat) (hB : c ∉ B) : ∀ A : List Nat, ∃ P, P ≠ [] ∧ spl c (A ++ c :: B) = P ++ [B]
  | [] => ⟨[[]], by simp, by rw [spl_app c B [] (by simp), spl_free c B hB]; rfl⟩
  | x :: A => by
    obtain ⟨P, hP, e⟩ := spl_last c B hB A
    show ∃ P, P ≠ [] ∧ spl c (x :: (A ++ c :: B)) = P ++ [B]
    unfold spl
    rw [e]
    by_cases h : x = c
    · rw [if_pos h]; exact ⟨[] :: P, by simp, rfl⟩
    · rw [if_neg h]
      cases P with
      | nil => exact absurd rfl hP
      | cons p ps => exact ⟨(x :: p) :: ps, by simp, rfl⟩
theorem spl_join (c : Nat) : ∀ parts : List Str, parts ≠ [] → (∀ p ∈ parts, c ∉ p.cps.toList) → spl c (Str.join ⟨#[c]⟩ parts).cps.toList = parts.map (·.cps.toList)
  | [], h, _ => absurd rfl h
  | [x], _, h => by
    show spl c x.cps.toList = _
    rw [spl_free c _ (h x List.mem_cons_self)]; rfl
  | x :: y :: r, _, h => by
    show spl c ((x ++ ⟨#[c]⟩ ++ Str.join ⟨#[c]⟩ (y :: r)).cps.toList) = _
    rw [Str.cps_append, Str.cps_append]
    simp only [Array.toList_append, List.append_assoc]
    have : (#[c] : Array Nat).toList ++ (Str.join ⟨#[c]⟩ (y :: r)).cps.toList = c :: (Str.join ⟨#[c]⟩ (y :: r)).cps.toList := by simp
    rw [this, spl_app c _ _ (h x List.mem_cons_self), spl_join c (y :: r) (by simp) fun p hp => h p (List.mem_cons_of_mem _ hp)]
    rfl
theorem split_ne (x y : Str) : Txt.split x y ≠ [] := by
  unfold Txt.split
  split
  · simp
  · split
    · simp
    · rw [PySem.StrLaws.partsBetween_eq]
      obtain ⟨p, r, e⟩ := PySem.StrLaws.partsFrom_ne x y.length 0 (Builtin.Str.occurrences x y 0 x.length (x.length + 1))
      rw [e]; simp
theorem split_mk (l : List Nat) (c : Nat) : Txt.split (mkS l) (mkS [c]) = (spl c l).map mkS := by
  have h1 := PySem.StrLaws.join_split (mkS l) ⟨#[c]⟩
  have h2 := PySem.StrLaws.split_free (mkS l) c
  have h3 := spl_join c _ (split_ne _ _) h2
  rw [h1, toList_mk] at h3
  rw [h3, List.map_map]
  show Txt.split (mkS l) ⟨#[c]⟩ = _
  conv => lhs; rw [← List.map_id (Txt.split (mkS l) ⟨#[c]⟩)]
  exact List.map_congr_left fun p _ => rfl
theorem partsFrom_len (x : Str) (w : Nat) : ∀ (cuts : List Nat) (a : Nat), (PySem.StrLaws.partsFrom x w a cuts).length = cuts.length + 1
  | [], _ => rfl
  | c :: r, a => by
    show (_ :: PySem.StrLaws.partsFrom x w (c + w) r).length = _
    rw [List.length_cons, partsFrom_len x w r]; rfl
theorem split_W {H : LH} {Q : PV → LH → Prop} {l : List Nat} {c : Nat} (hl : l.length ≤ 100000) (h : listW ((spl c l).map fun p => .str (mkS p)) H Q) : splitW (mkS l) [.str (mkS [c])] H Q := by
  refine ⟨_, rfl, by rw [mkS_len]; rfl, by rw [mkS_len, sizeLine_eq]; omega, ?_, ?_⟩
  · rw [PySem.StrLaws.partsBetween_eq, partsFrom_len]
    have := PySem.StrLaws.occ_length_le (mkS l) (mkS [c]) 0 (mkS l).length ((mkS l).length + 1)
    rw [mkS_len] at this ⊢
    rw [sizeLine_eq]; omega
  · rw [split_mk, List.map_map]; exact h
theorem count_W {H : LH} {Q : PV → LH → Prop} {l : List Nat} {c : Nat} (h : Q (.int (l.count c : Nat)) H) : countW (mkS l) [.str (mkS [c])] H Q := ⟨_, rfl, by rw [count_mk]; exact h⟩
/-- what a marked text is made of: a mark opened, a mark closed, a sign -/
inductive Tk where
  | op (m : Nat)
  | cl
  | sg (c : Nat)
def Tk.f : Tk → List Nat
  | .op m => [0, m]
  | .cl => [1]
  | .sg c => [c]
def flat : List Tk → List Nat
  | [] => []
  | t :: T => t.f ++ flat T
theorem flat_app (A B : List Tk) : flat (A ++ B) = flat A ++ flat B := by
  induction A with
  | nil => rfl
  | cons t A ih => show t.f ++ flat (A ++ B) = t.f ++ flat A ++ flat B; rw [ih, List.append_assoc]
def vis : List Tk → Nat
  | [] => 0
  | .sg _ :: T => vis T + 1
  | _ :: T => vis T
theorem vis_app (A B : List Tk) : vis (A ++ B) = vis A + vis B := by
  induction A with
  | nil => simp [vis]
  | cons t A ih => cases t <;> simp [vis, ih]; omega
/-- the mark behind A, m the mark ahead of it -/
def mkF (m : List Nat) : List Tk → List Nat
  | [] => m
  | .op k :: T => mkF [k] T
  | .cl :: T => mkF [] T
  | .sg _ :: T => mkF m T
theorem mkF_app (m : List Nat) (A B : List Tk) : mkF m (A ++ B) = mkF (mkF m A) B := by
  induction A generalizing m with
  | nil => rfl
  | cons t A ih => cases t <;> exact ih _
/-- marks are opened and closed in turn -/
def PW (m : List Nat) : List Tk → Prop
  | [] => True
  | .op k :: T => m = [] ∧ 2 ≤ k ∧ PW [k] T
  | .cl :: T => m ≠ [] ∧ PW [] T
  | .sg c :: T => 2 ≤ c ∧ PW m T
theorem PW_app (m : List Nat) (A B : List Tk) : PW m (A ++ B) ↔ PW m A ∧ PW (mkF m A) B := by
  induction A generalizing m with
  | nil => simp [PW, mkF]
  | cons t A ih => cases t <;> simp [PW, mkF, ih, and_assoc]
def pre (m : List Nat) : List Nat := match m with | [] => [] | m => 0 :: m
def post (m : List Nat) : List Nat := match m with | [] => [] | _ => [1]
def preT (m : List Nat) : List Tk := match m with | [] => [] | k :: _ => [.op k]
def one (m : List Nat) : Nat := match m with | [] => 0 | _ => 1
/-- the tokens up to the k-th sign, and those behind it -/
def cutA : Nat → List Tk → List Tk
  | 0, _ => []
  | _ + 1, [] => []
  | k + 1, .sg c :: T => .sg c :: cutA k T
  | k + 1, t :: T => t :: cutA (k + 1) T
def cutB : Nat → List Tk → List Tk
  | 0, T => T
  | _ + 1, [] => []
  | k + 1, .sg _ :: T => cutB k T
  | k + 1, _ :: T => cutB (k + 1) T
theorem cutB_nil : ∀ k, cutB k [] = []
  | 0 => rfl
  | _ + 1 => rfl
theorem cutA_nil : ∀ k, cutA k [] = []
  | 0 => rfl
  | _ + 1 => rfl
theorem cut_app (k : Nat) (T : List Tk) : cutA k T ++ cutB k T = T := by
  induction T generalizing k with
  | nil => cases k <;> rfl
  | cons t T ih =>
    cases k with
    | zero => rfl
    | succ k => cases t <;> simp [cutA, cutB, ih]
theorem vis_cutA (k : Nat) (T : List Tk) (h : k ≤ vis T) : vis (cutA k T) = k := by
  induction T generalizing k with
  | nil => cases k with
    | zero => rfl
    | succ k => simp [vis] at h
  | cons t T ih =>
    cases k with
    | zero => rfl
    | succ k =>
      cases t with
      | sg c => simp only [vis] at h; simp only [cutA, vis, ih k (by omega)]
      | op m => simp only [vis] at h; simp only [cutA, vis, ih _ h]
      | cl => simp only [vis] at h; simp only [cutA, vis, ih _ h]
theorem vis_cutB (k : Nat) (T : List Tk) (h : k ≤ vis T) : vis (cutB k T) = vis T - k := by
  have h1 := vis_cutA k T h
  have h2 := congrArg vis (cut_app k T)
  rw [vis_app] at h2; omega
theorem cutB_add (j k : Nat) (T : List Tk) : cutB (j + k) T = cutB k (cutB j T) := by
  induction T generalizing j with
  | nil => rw [cutB_nil, cutB_nil, cutB_nil]
  | cons t T ih =>
    cases j with
    | zero => rw [Nat.zero_add]; rfl
    | succ j =>
      rw [show j + 1 + k = (j + k) + 1 from by omega]
      cases t with
      | sg c => exact ih j
      | op m => show cutB (j + k + 1) T = cutB k (cutB (j + 1) T); rw [← ih (j + 1)]; congr 1; omega
      | cl => show cutB (j + k + 1) T = cutB k (cutB (j + 1) T); rw [← ih (j + 1)]; congr 1; omega
theorem cutA_add (j k : Nat) (T : List Tk) : cutA (j + k) T = cutA j T ++ cutA k (cutB j T) := by
  induction T generalizing j with
  | nil => rw [cutA_nil, cutB_nil, cutA_nil, cutA_nil]; rfl
  | cons t T ih =>
    cases j with
    | zero => rw [Nat.zero_add]; rfl
    | succ j =>
      rw [show j + 1 + k = (j + k) + 1 from by omega]
      have e : j + k + 1 = j + 1 + k := by omega
      cases t with
      | sg c => show Tk.sg c :: cutA (j + k) T = Tk.sg c :: (cutA j T ++ cutA k (cutB j T)); rw [ih j]
      | op m => show Tk.op m :: cutA (j + k + 1) T = Tk.op m :: (cutA (j + 1) T ++ cutA k (cutB (j + 1) T)); rw [← ih (j + 1), e]
      | cl => show Tk.cl :: cutA (j + k + 1) T = Tk.cl :: (cutA (j + 1) T ++ cutA k (cutB (j + 1) T)); rw [← ih (j + 1), e]
/-- counts -/
theorem count_op {k : Nat} (h : 2 ≤ k) (A : List Tk) : (flat (.op k :: A)).count 0 = (flat A).count 0 + 1 ∧ (flat (.op k :: A)).count 1 = (flat A).count 1 := by
  have e0 : k ≠ 0 := by omega
  have e1 : k ≠ 1 := by omega
  simp [flat, Tk.f, List.count_cons, e0, e1]
theorem count_cl (A : List Tk) : (flat (.cl :: A)).count 0 = (flat A).count 0 ∧ (flat (.cl :: A)).count 1 = (flat A).count 1 + 1 := by
  simp [flat, Tk.f, List.count_cons]
theorem count_sg {k : Nat} (h : 2 ≤ k) (A : List Tk) : (flat (.sg k :: A)).count 0 = (flat A).count 0 ∧ (flat (.sg k :: A)).count 1 = (flat A).count 1 := by
  have e0 : k ≠ 0 := by omega
  have e1 : k ≠ 1 := by omega
  simp [flat, Tk.f, List.count_cons, e0, e1]
theorem len_op (k : Nat) (A : List Tk) : (flat (.op k :: A)).length = (flat A).length + 2 := by simp [flat, Tk.f]
theorem len_cl (A : List Tk) : (flat (.cl :: A)).length = (flat A).length + 1 := by simp [flat, Tk.f]
theorem len_sg (k : Nat) (A : List Tk) : (flat (.sg k :: A)).length = (flat A).length + 1 := by simp [flat, Tk.f]
theorem one_cons (k : Nat) (l : List Nat) : one (k :: l) = 1 := rfl
theorem one_nil : one [] = 0 := rfl
theorem one_ne {m : List Nat} (h : m ≠ []) : one m = 1 := by cases m with | nil => exact absurd rfl h | cons _ _ => rfl
theorem flat_bal (m : List Nat) (A : List Tk) (h : PW m A) : (flat A).count 0 + one m = (flat A).count 1 + one (mkF m A) := by
  induction A generalizing m with
  | nil => simp [flat, mkF]
  | cons t A ih =>
    cases t with
    | op k =>
      obtain ⟨rfl, h2, h3⟩ := h
      have := ih [k] h3
      rw [(count_op h2 A).1, (count_op h2 A).2]
      rw [one_cons] at this
      simp only [mkF, one_nil]; omega
    | cl =>
      obtain ⟨h1, h3⟩ := h
      have := ih [] h3
      rw [(count_cl A).1, (count_cl A).2, one_ne h1]
      rw [one_nil] at this
      simp only [mkF]; omega
    | sg c =>
      obtain ⟨h1, h3⟩ := h
      have := ih m h3
      rw [(count_sg h1 A).1, (count_sg h1 A).2]
      simp only [mkF]; omega
theorem flat_len (m : List Nat) (A : List Tk) (h : PW m A) : (flat A).length = vis A + 2 * (flat A).count 0 + (flat A).count 1 := by
  induction A generalizing m with
  | nil => simp [flat, vis]
  | cons t A ih =>
    cases t with
    | op k =>
      obtain ⟨rfl, h2, h3⟩ := h
      have := ih [k] h3
      rw [(count_op h2 A).1, (count_op h2 A).2, len_op]
      simp only [vis]; omega
    | cl =>
      obtain ⟨h1, h3⟩ := h
      have := ih [] h3
      rw [(count_cl A).1, (count_cl A).2, len_cl]
      simp only [vis]; omega
    | sg c =>
      obtain ⟨h1, h3⟩ := h
      have := ih m h3
      rw [(count_sg h1 A).1, (count_sg h1 A).2, len_sg]
      simp only [vis]; omega
theorem mkF_len (m : List Nat) (A : List Tk) (hm : m.length ≤ 1) : (mkF m A).length ≤ 1 := by
  induction A generalizing m with
  | nil => exact hm
  | cons t A ih => cases t <;> exact ih _ (by simp [hm])
/-- where a mark is open, it stands behind the last 0 -/
theorem flat_open (A : List Tk) (m : List Nat) (k : Nat) (r : List Nat) (h : PW m A) (hk : mkF m A = k :: r) : (m = k :: r ∧ 0 ∉ flat A) ∨ ∃ P B, flat A = P ++ 0 :: k :: B ∧ 0 ∉ (k :: B) ∧ r = [] := by
  induction A generalizing m with
  | nil => exact .inl ⟨hk, by simp [flat]⟩
  | cons t A ih =>
    cases t with
    | op j =>
      obtain ⟨rfl, h2, h3⟩ := h
      rcases ih [j] h3 hk with ⟨e, h0⟩ | ⟨P, B, e, h0, hr⟩
      · cases e
        refine .inr ⟨[], flat A, rfl, ?_, rfl⟩
        simp only [List.mem_cons, not_or]
        exact ⟨by omega, h0⟩
      · exact .inr ⟨[0, j] ++ P, B, by show [0, j] ++ flat A = _; rw [e, List.append_assoc], h0, hr⟩
    | cl =>
      obtain ⟨h1, h3⟩ := h
      rcases ih [] h3 hk with ⟨e, h0⟩ | ⟨P, B, e, h0, hr⟩
      · cases e
      · exact .inr ⟨[1] ++ P, B, by show [1] ++ flat A = _; rw [e, List.append_assoc], h0, hr⟩
    | sg c =>
      obtain ⟨h1, h3⟩ := h
      rcases ih m h3 hk with ⟨e, h0⟩ | ⟨P, B, e, h0, hr⟩
      · refine .inl ⟨e, ?_⟩
        show 0 ∉ [c] ++ flat A
        simp only [List.mem_append, List.mem_singleton, not_or]
        exact ⟨by omega, h0⟩
      · exact .inr ⟨[c] ++ P, B, by show [c] ++ flat A = _; rw [e, List.append_assoc], h0, hr⟩
/-- signs seen so far -/
def sn (l : List Nat) : Int := (l.length : Int) - 2 * (l.count 0 : Nat) - (l.count 1 : Nat)
theorem sn_flat (m : List Nat) (A : List Tk) (h : PW m A) : sn (flat A) = vis A := by
  have := flat_len m A h
  unfold sn; omega
theorem sn_cons_sg {c : Nat} (hc : 2 ≤ c) (l : List Nat) : sn (c :: l) = sn l + 1 := by
  unfold sn
  rw [List.count_cons_of_ne (by omega), List.count_cons_of_ne (by omega), List.length_cons]; omega
theorem sn_cons_1 (l : List Nat) : sn (1 :: l) = sn l := by
  unfold sn
  rw [List.count_cons_of_ne (by omega), List.count_cons_self, List.length_cons]; omega
theorem sn_cons_0 (l : List Nat) : sn (0 :: l) = sn l - 1 := by
  unfold sn
  rw [List.count_cons_of_ne (a := 1) (by omega), List.count_cons_self, List.length_cons]; omega
theorem sn_lt (m : List Nat) (T : List Tk) (h : PW m T) : ∀ k p, 1 ≤ k → p < (flat (cutA k T)).length → sn ((flat T).take p) < k := by
  induction T generalizing m with
  | nil => intro k p hk hp; rw [cutA_nil] at hp; exact absurd hp (Nat.not_lt_zero p)
  | cons t T ih =>
    intro k p hk hp
    obtain ⟨k, rfl⟩ : ∃ j, k = j + 1 := ⟨k - 1, by omega⟩
    cases p with
    | zero => rw [List.take_zero]; show (0 : Int) < _; omega
    | succ p =>
      cases t with
      | sg c =>
        obtain ⟨h1, h3⟩ := h
        show sn ((c :: flat T).take (p + 1)) < _
        rw [List.take_succ_cons, sn_cons_sg h1]
        rw [show cutA (k + 1) (Tk.sg c :: T) = Tk.sg c :: cutA k T from rfl, len_sg] at hp
        by_cases hk0 : k = 0
        · subst hk0; simp [cutA, flat] at hp
        · have := ih m h3 k p (by omega) (by omega); omega
      | cl =>
        obtain ⟨h1, h3⟩ := h
        show sn ((1 :: flat T).take (p + 1)) < _
        rw [List.take_succ_cons, sn_cons_1]
        rw [show cutA (k + 1) (Tk.cl :: T) = Tk.cl :: cutA (k + 1) T from rfl, len_cl] at hp
        exact ih [] h3 (k + 1) p hk (by omega)
      | op j =>
        obtain ⟨rfl, h2, h3⟩ := h
        rw [show cutA (k + 1) (Tk.op j :: T) = Tk.op j :: cutA (k + 1) T from rfl, len_op] at hp
        show sn ((0 :: j :: flat T).take (p + 1)) < _
        rw [List.take_succ_cons, sn_cons_0]
        cases p with
        | zero => rw [List.take_zero]; show (0 : Int) - 1 < _; omega
        | succ p =>
          rw [List.take_succ_cons, sn_cons_sg h2]
          have := ih [j] h3 (k + 1) p hk (by omega); omega
end Mine
end
section
namespace Mine
def pcs (w : Nat) : Nat → List Nat → List Tk → List (List Nat)
  | 0, m, B => [pre m ++ flat B]
  | f + 1, m, B => if vis B ≤ w then [pre m ++ flat B] else (pre m ++ flat (cutA w B) ++ post (mkF m (cutA w B))) :: pcs w f (mkF m (cutA w B)) (cutB w B)
theorem idxOf_eq {l : List Int} {k : Int} {j : Nat} (h : l[j]? = some k) (h' : ∀ i, i < j → l[i]? ≠ some k) : l.idxOf k = j := by
  induction l generalizing j with
  | nil => cases h
  | cons a l ih =>
    cases j with
    | zero => cases h; simp
    | succ j =>
      have h0 : a ≠ k := fun e => h' 0 (by omega) (by rw [e]; rfl)
      have := ih h fun i hi => h' (i + 1) (by omega)
      have hb : (a == k) = false := by simpa using h0
      simp [List.idxOf_cons, hb, this]
/-- the cuts of the law's -/
def atk (w M : Nat) (T : List Tk) (n : Nat) : List Tk := if n ≤ M then cutA (n * w) T else T
def pcn (w M : Nat) (T : List Tk) (n : Nat) : List Nat :=
  pre (mkF [] (atk w M T n)) ++ ((flat T).drop (flat (atk w M T n)).length).take ((flat (atk w M T (n + 1))).length - (flat (atk w M T n)).length) ++ post (mkF [] (atk w M T (n + 1)))
theorem pcn_eq (w M : Nat) (T D : List Tk) (n : Nat) (R : List Tk) (h1 : atk w M T (n + 1) = atk w M T n ++ D) (h2 : T = atk w M T (n + 1) ++ R) :
    pcn w M T n = pre (mkF [] (atk w M T n)) ++ flat D ++ post (mkF [] (atk w M T n ++ D)) := by
  unfold pcn
  rw [← h1]
  congr 2
  have e : flat T = flat (atk w M T n) ++ (flat D ++ flat R) := by
    conv => lhs; rw [h2, h1]
    rw [flat_app, flat_app, List.append_assoc]
  rw [e, List.drop_left, h1, flat_app, List.length_append, Nat.add_sub_cancel_left, List.take_left]
theorem pcs_law (w M : Nat) (T : List Tk) (hw : 1 ≤ w) (hM1 : M = 0 ∨ M * w < vis T) (hM2 : vis T ≤ (M + 1) * w) (hc : mkF [] T = []) : ∀ f n, n ≤ M → M - n ≤ f →
    pcs w f (mkF [] (cutA (n * w) T)) (cutB (n * w) T) = (List.range' n (M + 1 - n)).map (pcn w M T) := by
  have hle : ∀ n, n ≤ M → n * w ≤ vis T := fun n hn => by
    rcases hM1 with h | h
    · have : n = 0 := by omega
      subst this; simp
    · have := Nat.mul_le_mul_right w hn; omega
  have lastp : ∀ n, n = M → pre (mkF [] (cutA (n * w) T)) ++ flat (cutB (n * w) T) = pcn w M T n := fun n hn => by
    have h0 : atk w M T n = cutA (n * w) T := if_pos (by omega)
    have h1 : atk w M T (n + 1) = T := if_neg (by omega)
    rw [pcn_eq w M T (cutB (n * w) T) n [] (by rw [h0, h1, cut_app]) (by rw [h1, List.append_nil]), h0, cut_app, hc]
    simp [post]
  intro f
  induction f with
  | zero =>
    intro n hn hf
    have : n = M := by omega
    subst this
    show [_] = _
    rw [lastp n rfl, Nat.add_sub_cancel_left]; rfl
  | succ f ih =>
    intro n hn hf
    have hv := vis_cutB (n * w) T (hle n hn)
    unfold pcs
    by_cases hlast : n = M
    · subst hlast
      rw [if_pos (by rw [hv]; rw [Nat.add_mul] at hM2; omega), lastp n rfl, Nat.add_sub_cancel_left]; rfl
    · have hn1 : n + 1 ≤ M := by omega
      have hbig : (n + 1) * w < vis T := by
        rcases hM1 with h | h
        · omega
        · have := Nat.mul_le_mul_right w hn1; omega
      rw [if_neg (by rw [hv]; rw [Nat.add_mul] at hbig; omega)]
      have e1 : mkF (mkF [] (cutA (n * w) T)) (cutA w (cutB (n * w) T)) = mkF [] (cutA ((n + 1) * w) T) := by
        rw [← mkF_app, ← cutA_add, Nat.add_mul, Nat.one_mul]
      have e2 : cutB w (cutB (n * w) T) = cutB ((n + 1) * w) T := by rw [← cutB_add, Nat.add_mul, Nat.one_mul]
      rw [e1, e2, ih (n + 1) hn1 (by omega), show M + 1 - n = (M + 1 - (n + 1)) + 1 from by omega, List.range'_succ, List.map_cons]
      congr 1
      have h0 : atk w M T n = cutA (n * w) T := if_pos hn
      have h1 : atk w M T (n + 1) = cutA ((n + 1) * w) T := if_pos hn1
      have h2 : atk w M T (n + 1) = atk w M T n ++ cutA w (cutB (n * w) T) := by rw [h0, h1, ← cutA_add, Nat.add_mul, Nat.one_mul]
      rw [pcn_eq w M T (cutA w (cutB (n * w) T)) n (cutB ((n + 1) * w) T) h2 (by rw [h1, cut_app]), ← h2, h0, h1]
def seen (T : List Tk) : List Int := (List.range ((flat T).length + 1)).map fun p => sn ((flat T).take p)
theorem seen_len (T : List Tk) : (seen T).length = (flat T).length + 1 := by simp [seen]
theorem seen_get (T : List Tk) (p : Nat) (hp : p ≤ (flat T).length) : (seen T)[p]? = some (sn ((flat T).take p)) := by
  unfold seen
  rw [List.getElem?_map, List.getElem?_range (by omega)]; rfl
theorem seen_idx (T : List Tk) (h : PW [] T) (k : Nat) (hk : 1 ≤ k) (hv : k ≤ vis T) : (seen T).idxOf (k : Int) = (flat (cutA k T)).length ∧ (k : Int) ∈ seen T := by
  have e : flat T = flat (cutA k T) ++ flat (cutB k T) := by rw [← flat_app, cut_app]
  have hl : (flat (cutA k T)).length ≤ (flat T).length := by rw [e, List.length_append]; omega
  have hPW : PW [] (cutA k T) := by rw [← cut_app k T, PW_app] at h; exact h.1
  have hg : (seen T)[(flat (cutA k T)).length]? = some (k : Int) := by
    rw [seen_get T _ hl]
    congr 1
    have e' : (flat T).take (flat (cutA k T)).length = flat (cutA k T) := by rw [e, List.take_left]
    rw [e', sn_flat [] _ hPW, vis_cutA k T hv]
  refine ⟨idxOf_eq hg fun i hi hx => ?_, List.mem_of_getElem? hg⟩
  rw [seen_get T i (by omega)] at hx
  have := sn_lt [] T h k i hk hi
  rw [Option.some.inj hx] at this
  omega
/-- how many cuts -/
def cutsN (w V : Nat) : Nat := (V - 1) / w
theorem cutsN_1 (w V : Nat) (hw : 1 ≤ w) : cutsN w V = 0 ∨ cutsN w V * w < V := by
  unfold cutsN
  rcases Nat.eq_zero_or_pos V with h | h
  · left; subst h; simp
  · right
    have := Nat.div_mul_le_self (V - 1) w; omega
theorem cutsN_2 (w V : Nat) (hw : 1 ≤ w) : V ≤ (cutsN w V + 1) * w := by
  unfold cutsN
  have := Nat.lt_mul_div_succ (V - 1) (show 0 < w by omega)
  rw [Nat.mul_comm] at this; omega
theorem cutsN_range (w V : Nat) (hw : 1 ≤ w) : rngInts (w : Int) (V : Int) (w : Int) = (List.range (cutsN w V)).map fun i => (((i + 1) * w : Nat) : Int) := by
  have hsz : (Builtin.Range.rangeSize (w : Int) (V : Int) (w : Int)).toNat = cutsN w V := by
    unfold Builtin.Range.rangeSize cutsN
    rw [if_pos (by simp; omega)]
    by_cases h : (w : Int) < (V : Int)
    · rw [if_pos (by simpa using h)]
      have e1 : ((V : Int) - w - 1) = ((V - w - 1 : Nat) : Int) := by omega
      rw [e1, ← Int.natCast_ediv]
      have e2 : (V - 1) / w = (V - w - 1) / w + 1 := by
        have : V - 1 = (V - w - 1) + w := by omega
        rw [this, Nat.add_div_right _ (by omega)]
      rw [e2]
      generalize (V - w - 1) / w = q
      omega
    · rw [if_neg (by simpa using h), Nat.div_eq_of_lt (by omega)]; rfl
  unfold rngInts
  rw [hsz]
  refine List.map_congr_left fun i _ => ?_
  rw [Nat.add_mul, Nat.one_mul, Int.natCast_add, Int.natCast_mul]; omega
end Mine
end
section
namespace Mine
theorem fm_ok (x : Int) {k : Int} (h : 0 < k) : 0 ≤ x.fmod k ∧ x.fmod k < k := ⟨Int.fmod_nonneg_of_pos _ h, Int.fmod_lt_of_pos _ h⟩
theorem clip_nat (n k : Nat) : clipAt n (k : Int) = min k n := by unfold clipAt; omega
theorem cut_lo {α : Type} (xs : List α) (k : Nat) : cut xs (some (k : Int)) none = xs.drop k := by
  unfold cut
  simp only [Option.elim, clip_nat]
  by_cases h : k ≤ xs.length
  · rw [Nat.min_eq_left h, List.take_of_length_le (by simp)]
  · rw [Nat.min_eq_right (by omega), List.drop_of_length_le (by omega : xs.length ≤ k)]; simp
theorem cut_hi {α : Type} (xs : List α) (k : Nat) : cut xs none (some (k : Int)) = xs.take k := by
  unfold cut
  simp only [Option.elim, clip_nat, List.drop_zero, Nat.sub_zero]
  by_cases h : k ≤ xs.length
  · rw [Nat.min_eq_left h]
  · rw [Nat.min_eq_right (by omega), List.take_of_length_le (by omega : xs.length ≤ k), List.take_length]
theorem cut_both {α : Type} (xs : List α) (i j : Nat) (hi : i ≤ xs.length) (hj : j ≤ xs.length) : cut xs (some (i : Int)) (some (j : Int)) = (xs.drop i).take (j - i) := by
  unfold cut
  simp only [Option.elim, clip_nat]
  rw [Nat.min_eq_left hi, Nat.min_eq_left hj]
def isMk (m : List Nat) : Prop := m = [] ∨ ∃ k, 2 ≤ k ∧ m = [k]
theorem mkF_isMk (m : List Nat) (A : List Tk) (h : PW m A) (hm : isMk m) : isMk (mkF m A) := by
  induction A generalizing m with
  | nil => exact hm
  | cons t A ih =>
    cases t with
    | op k => obtain ⟨_, h2, h3⟩ := h; exact ih _ h3 (.inr ⟨k, h2, rfl⟩)
    | cl => exact ih _ h.2 (.inl rfl)
    | sg c => exact ih _ h.2 hm
/-- a mark closed, another one opened -/
def swT (now m : List Nat) : List Tk := (match now with | [] => [] | _ => [.cl]) ++ preT m
theorem swT_ok (A : List Tk) (m : List Nat) (h : PW [] A) (hm : isMk m) : PW [] (A ++ swT (mkF [] A) m) ∧ mkF [] (A ++ swT (mkF [] A) m) = m ∧ flat (A ++ swT (mkF [] A) m) = flat A ++ post (mkF [] A) ++ pre m ∧ vis (A ++ swT (mkF [] A) m) = vis A := by
  rw [PW_app, mkF_app, flat_app, vis_app]
  generalize hn : mkF [] A = now
  rcases hm with rfl | ⟨k, hk, rfl⟩
  · cases now with
    | nil => simp [swT, preT, PW, mkF, flat, post, pre, vis, h]
    | cons a r => simp [swT, preT, PW, mkF, flat, Tk.f, post, pre, vis, h]
  · cases now with
    | nil => simp [swT, preT, PW, mkF, flat, Tk.f, post, pre, vis, h, hk]
    | cons a r => simp [swT, preT, PW, mkF, flat, Tk.f, post, pre, vis, h, hk]
theorem pre_len (m : List Nat) (h : isMk m) : (pre m).length ≤ 2 := by
  rcases h with rfl | ⟨k, _, rfl⟩ <;> simp [pre]
theorem post_len (m : List Nat) : (post m).length ≤ 1 := by cases m <;> simp [post]
/-- the mark of a number -/
def mark4 (x : Int) : List Nat := if x.fmod 4 = 0 then [] else if x.fmod 4 = 1 then [43] else if x.fmod 4 = 2 then [45] else [94]
theorem mark4_isMk (x : Int) : isMk (mark4 x) := by
  unfold mark4
  split
  · exact .inl rfl
  · split
    · exact .inr ⟨43, by decide, rfl⟩
    · split
      · exact .inr ⟨45, by decide, rfl⟩
      · exact .inr ⟨94, by decide, rfl⟩
theorem mark4_idx {H : LH} {Q : PV → LH → Prop} (x : Int) (h : Q (.str (mkS (mark4 x))) H) :
    idxW (.lst [.str (mkS []), .str (mkS [43]), .str (mkS [45]), .str (mkS [94])]) (.int (x.fmod 4)) H Q := by
  have h4 := fm_ok x (k := 4) (by decide)
  have hm : x.fmod 4 = 0 ∨ x.fmod 4 = 1 ∨ x.fmod 4 = 2 ∨ x.fmod 4 = 3 := by omega
  unfold mark4 at h
  rcases hm with e | e | e | e
  · rw [e] at h ⊢; exact idx_L (k := 0) rfl (by simp) (by simpa using h)
  · rw [e] at h ⊢; exact idx_L (k := 1) rfl (by simp) (by simpa using h)
  · rw [e] at h ⊢; exact idx_L (k := 2) rfl (by simp) (by simpa using h)
  · rw [e] at h ⊢; exact idx_L (k := 3) rfl (by simp) (by simpa using h)
theorem ne_nilS (m : List Nat) : (mkS m != mkS []) = !m.isEmpty := by
  cases m with
  | nil => rfl
  | cons a r =>
    show (mkS (a :: r) != mkS []) = true
    rw [bne, mkS_beq]; rfl
end Mine
namespace Mine
theorem cmp_neI {H : LH} {i j : Int} {R : Bool → Prop} (h : R (i != j)) : cmpW .NotEq (.int i) (.int j) H R := h
theorem ifexp_post {now : List Nat} {R : PV → Prop} (h : R (.str (mkS (post now)))) : if (mkS now != mkS []) = true then R (.str (mkS [1])) else R (.str (mkS [])) := by
  rw [ne_nilS]
  cases now with
  | nil => exact h
  | cons a r => exact h
theorem ifexp_pre {m : List Nat} {H : LH} {R : PV → LH → Prop} (hm : m.length ≤ 1) (h : R (.str (mkS (pre m))) H) : if (mkS m != mkS []) = true then binW .Add (.str (mkS [0])) (.str (mkS m)) H (fun v H₂ => R v H₂) else R (.str (mkS [])) H := by
  rw [ne_nilS]
  cases m with
  | nil => exact h
  | cons a r =>
    rw [if_pos (by simp)]
    refine bin_addS (by rw [mkS_len, mkS_len, sizeLine_eq]; simp only [List.length_cons, List.length_nil] at hm ⊢; omega) ?_
    rw [mkS_append]; exact h
theorem sg_ok (A : List Tk) (c : Nat) (h : PW [] A) (hc : 2 ≤ c) : PW [] (A ++ [.sg c]) ∧ mkF [] (A ++ [.sg c]) = mkF [] A ∧ flat (A ++ [.sg c]) = flat A ++ [c] ∧ vis (A ++ [.sg c]) = vis A + 1 := by
  rw [PW_app, mkF_app, flat_app, vis_app]
  simp [PW, mkF, flat, Tk.f, vis, h, hc]
theorem chr_W {H : LH} {Q : PV → LH → Prop} {i : Int} (c : Nat) (e : i = (c : Int)) (hc : c ≤ 200) (h : Q (.str (mkS [c])) H) : chrOp [.int i] H Q := by
  subst e
  exact ⟨_, rfl, by omega, by omega, by simpa [mkS] using h⟩
end Mine
namespace Mine
theorem rng01 (k : Nat) : rngInts 0 (k : Int) 1 = (List.range k).map fun i => ((i : Nat) : Int) := by
  have hs : (Builtin.Range.rangeSize 0 (k : Int) 1).toNat = k := by
    unfold Builtin.Range.rangeSize
    rw [if_pos (by decide)]
    by_cases h : (0 : Int) < k
    · rw [if_pos h, Int.ediv_one]; omega
    · rw [if_neg h]; omega
  unfold rngInts
  rw [hs]
  exact List.map_congr_left fun i _ => by omega
theorem ediv_bd {x c : Int} (hx : 0 ≤ x) (hc : 0 ≤ c) : 0 ≤ x / c ∧ x / c ≤ x := by
  refine ⟨Int.ediv_nonneg hx hc, ?_⟩
  exact Int.ediv_le_self c hx
theorem small_ok {a b c : Int} (ha : -1000000 ≤ a ∧ a ≤ 1000000) (hb : -1000000 ≤ b ∧ b ≤ 1000000) (hc : -1000 ≤ c ∧ c ≤ 1000) : Builtin.Range.small a b c = true := by
  have hn : 0 ≤ Builtin.Range.rangeSize a b c ∧ Builtin.Range.rangeSize a b c ≤ 3000000 := by
    unfold Builtin.Range.rangeSize
    split
    · split
      · have := ediv_bd (x := b - a - 1) (c := c) (by omega) (by omega); omega
      · omega
    · split
      · have := ediv_bd (x := a - b - 1) (c := -c) (by omega) (by omega); omega
      · omega
  unfold Builtin.Range.small
  generalize Builtin.Range.rangeSize a b c = n at hn
  simp only [Builtin.Range.rangeFitsLong, Bool.and_eq_true, Bool.or_eq_true, decide_eq_true_eq, beq_iff_eq]
  refine ⟨⟨⟨⟨by omega, by omega⟩, by omega⟩, by omega⟩, .inr ?_⟩
  split <;> simp only [Bool.and_eq_true, decide_eq_true_eq] <;> omega
theorem mulI_ok {i j : Int} (h : Builtin.Int.intBits i ≤ 64) : IntMulOk i j := IntMulOk.of_left h
end Mine
end
section
namespace Mine
theorem MOp.mono {h₀ : Heap} {prog : Program} {w : World} {n : Nat} {env : Env} {loc : Loc} {Z : Zm} {H : LH} {s : Shared} {t : Sem Value} {W W' : (PV → LH → Prop) → Prop} (h : MOp h₀ prog w n env loc Z H s t W) (hw : ∀ Q, W' Q → W Q) : MOp h₀ prog w n env loc Z H s t W' :=
  fun A Q Q' E rm f q => h A Q Q' E rm (hw Q f) q
theorem LH.set_set (H : LH) (a : Addr) (l l' : LO) : (H.set a l).set a l' = H.set a l' := by
  funext b
  unfold LH.set
  by_cases h : b = a <;> simp [h]
theorem idx_S {l : List Nat} {H : LH} {Q : PV → LH → Prop} {k c : Nat} (hc : l[k]? = some c) (hl : l.length ≤ 100000) (h : Q (.str (mkS [c])) H) : idxW (.str (mkS l)) (.int (k : Int)) H Q := by
  have hk := (List.getElem?_eq_some_iff.mp hc).1
  refine ⟨by omega, c, ?_, h⟩
  rw [mkS_len, seqIndex_nat hk]
  show (mkS l).cps[k]? = some c
  simp [mkS, hc]
/-- the rows that are laid behind -/
def rowsOf (line : PV) : List (List Nat) → List PV
  | [] => []
  | p :: ps => .tup [line, .str (mkS p)] :: ps.map fun p => .tup [.str (mkS [62]), .str (mkS p)]
theorem rowsOf_gt (ps : List (List Nat)) : rowsOf (.str (mkS [62])) ps = ps.map fun p => .tup [.str (mkS [62]), .str (mkS p)] := by cases ps <;> rfl
theorem rowsOf_len (line : PV) (ps : List (List Nat)) : (rowsOf line ps).length = ps.length := by cases ps <;> simp [rowsOf]
/-- what _split_line does -/
def SpW (C : Addr) (v : Nat) (ps : List PV) (H : LH) (Q : PV → LH → Prop) : Prop :=
  ∃ (fs : List (String × PV)) (a : Addr) (xs : List PV) (line : PV) (t : Bool) (m : List Nat) (B : List Tk) (wr : Nat), ps = [.obj C fs, .ref a, line, .str (mkS (pre m ++ flat B))] ∧ fs.lookup "_wrapcolumn" = some (.int (wr : Int)) ∧ fs.lookup "_split_line" = none ∧
    H a = some ⟨true, xs⟩ ∧ (∀ H R, R t → truthW line H R) ∧ isMk m ∧ PW m B ∧ mkF m B = [] ∧ vis B ≤ v ∧ (flat B).length ≤ 900 ∧ 1 ≤ wr ∧ wr ≤ 1000 ∧ xs.length + vis B ≤ 10000 ∧
    Q .none (H.set a ⟨true, xs ++ rowsOf line (if t then pcs wr v m B else [pre m ++ flat B])⟩)
theorem SpW.mono {C : Addr} {v : Nat} {ps : List PV} {H : LH} {Q Q' : PV → LH → Prop} (hm : ∀ r H', Q r H' → Q' r H') (h : SpW C v ps H Q) : SpW C v ps H Q' := by
  obtain ⟨fs, a, xs, line, t, m, B, wr, h1, h2, h3, h4, h5, h6, h7, h8, h9, h10, h11, h12, h13, h14⟩ := h
  exact ⟨fs, a, xs, line, t, m, B, wr, h1, h2, h3, h4, h5, h6, h7, h8, h9, h10, h11, h12, h13, hm _ _ h14⟩
theorem flat_preT (m : List Nat) (B : List Tk) (h : isMk m) : flat (preT m ++ B) = pre m ++ flat B := by
  rcases h with rfl | ⟨k, _, rfl⟩ <;> rfl
theorem vis_preT (m : List Nat) (B : List Tk) : vis (preT m ++ B) = vis B := by cases m <;> rfl
theorem mkF_preT (m : List Nat) (B : List Tk) (h : isMk m) : mkF [] (preT m ++ B) = mkF m B := by
  rcases h with rfl | ⟨k, _, rfl⟩ <;> rfl
theorem PW_preT (m : List Nat) (B : List Tk) (h : isMk m) (hB : PW m B) : PW [] (preT m ++ B) := by
  rcases h with rfl | ⟨k, hk, rfl⟩
  · exact hB
  · exact ⟨rfl, hk, hB⟩
theorem cutA_preT (m : List Nat) (B : List Tk) (w : Nat) (hw : 1 ≤ w) : cutA w (preT m ++ B) = preT m ++ cutA w B := by
  obtain ⟨w, rfl⟩ : ∃ j, w = j + 1 := ⟨w - 1, by omega⟩
  cases m with
  | nil => rfl
  | cons k r => show cutA (w + 1) (.op k :: B) = _; simp [cutA, preT]
theorem cutB_preT (m : List Nat) (B : List Tk) (w : Nat) (hw : 1 ≤ w) : cutB w (preT m ++ B) = cutB w B := by
  obtain ⟨w, rfl⟩ : ∃ j, w = j + 1 := ⟨w - 1, by omega⟩
  cases m with
  | nil => rfl
  | cons k r => show cutB (w + 1) (.op k :: B) = _; simp [cutB]
/-- the loop's state -/
structure LpI (T : List Tk) (wr : Nat) (A B : List Tk) : Prop where
  all : T = A ++ B
  le : vis A ≤ wr
  cut : A ++ cutA (wr - vis A) B = cutA wr T
theorem LpI.init (T : List Tk) (wr : Nat) : LpI T wr [] T := ⟨rfl, Nat.zero_le _, rfl⟩
theorem LpI.done {T : List Tk} {wr : Nat} {A B : List Tk} (h : LpI T wr A B) (e : vis A = wr) : A = cutA wr T := by
  have := h.cut
  rw [e, Nat.sub_self] at this
  rw [← this]; simp [cutA]
theorem LpI.next {T : List Tk} {wr : Nat} {A B : List Tk} {t : Tk} (h : LpI T wr A (t :: B)) (hlt : vis A < wr) : LpI T wr (A ++ [t]) B := by
  have hc := h.cut
  obtain ⟨k, hk⟩ : ∃ k, wr - vis A = k + 1 := ⟨wr - vis A - 1, by omega⟩
  rw [hk] at hc
  refine ⟨by rw [h.all, List.append_assoc]; rfl, ?_, ?_⟩
  · rw [vis_app]
    cases t <;> simp [vis] <;> omega
  · rw [vis_app, ← hc, List.append_assoc]
    congr 1
    cases t with
    | sg c =>
      rw [show wr - (vis A + vis [Tk.sg c]) = k from by simp [vis]; omega]; simp [cutA]
    | op m =>
      rw [show wr - (vis A + vis [Tk.op m]) = k + 1 from by simp [vis]; omega]; simp [cutA]
    | cl =>
      rw [show wr - (vis A + vis [Tk.cl]) = k + 1 from by simp [vis]; omega]; simp [cutA]
theorem get_app (X Y : List Nat) (i : Nat) : (X ++ Y)[X.length + i]? = Y[i]? := by
  rw [List.getElem?_append_right (by omega)]; congr 1; omega
end Mine
namespace Mine
theorem mkF_mem (m : List Nat) (A : List Tk) (c : Nat) (h : c ∈ mkF m A) : c ∈ m ∨ c ∈ flat A := by
  induction A generalizing m with
  | nil => exact .inl h
  | cons t A ih =>
    cases t with
    | op k =>
      rcases ih [k] h with h | h
      · rw [List.mem_singleton] at h; subst h; exact .inr (by simp [flat, Tk.f])
      · exact .inr (by simp [flat, h])
    | cl =>
      rcases ih [] h with h | h
      · cases h
      · exact .inr (by simp [flat, h])
    | sg k =>
      rcases ih m h with h | h
      · exact .inl h
      · exact .inr (by simp [flat, h])
theorem pre_mem (m : List Nat) (c : Nat) (h : c ∈ pre m) : c = 0 ∨ c ∈ m := by
  cases m with
  | nil => cases h
  | cons a r => exact List.mem_cons.mp h
theorem post_mem (m : List Nat) (c : Nat) (h : c ∈ post m) : c = 1 := by
  cases m with
  | nil => cases h
  | cons a r => exact List.mem_singleton.mp h
theorem pcs_mem (P : Nat → Prop) (h0 : P 0) (h1 : P 1) (w : Nat) : ∀ f m B, (∀ c ∈ m, P c) → (∀ c ∈ flat B, P c) → ∀ p ∈ pcs w f m B, ∀ c ∈ p, P c := by
  have whole : ∀ m B, (∀ c ∈ m, P c) → (∀ c ∈ flat B, P c) → ∀ c ∈ pre m ++ flat B, P c := fun m B hm hB c hc => by
    rcases List.mem_append.mp hc with h | h
    · rcases pre_mem m c h with rfl | h
      · exact h0
      · exact hm c h
    · exact hB c h
  intro f
  induction f with
  | zero =>
    intro m B hm hB p hp
    rw [show pcs w 0 m B = [pre m ++ flat B] from rfl, List.mem_singleton] at hp
    subst hp; exact whole m B hm hB
  | succ f ih =>
    intro m B hm hB p hp
    unfold pcs at hp
    have e : flat B = flat (cutA w B) ++ flat (cutB w B) := by rw [← flat_app, cut_app]
    have hA : ∀ c ∈ flat (cutA w B), P c := fun c hc => hB c (by rw [e]; exact List.mem_append_left _ hc)
    have hB' : ∀ c ∈ flat (cutB w B), P c := fun c hc => hB c (by rw [e]; exact List.mem_append_right _ hc)
    have hm' : ∀ c ∈ mkF m (cutA w B), P c := fun c hc => by
      rcases mkF_mem m _ c hc with h | h
      · exact hm c h
      · exact hA c h
    split at hp
    · rw [List.mem_singleton] at hp; subst hp; exact whole m B hm hB
    · rcases List.mem_cons.mp hp with rfl | hp
      · intro c hc
        rcases List.mem_append.mp hc with h | h
        · exact whole m _ hm hA c h
        · rw [post_mem _ c h]; exact h1
      · exact ih _ _ hm' hB' p hp
theorem pcs_fuel (w : Nat) (hw : 1 ≤ w) : ∀ f f' m B, vis B ≤ f → vis B ≤ f' → pcs w f m B = pcs w f' m B := by
  intro f
  induction f with
  | zero =>
    intro f' m B h h'
    cases f' with
    | zero => rfl
    | succ f' => show _ = pcs w (f' + 1) m B; unfold pcs; rw [if_pos (by omega)]
  | succ f ih =>
    intro f' m B h h'
    cases f' with
    | zero => show pcs w (f + 1) m B = _; unfold pcs; rw [if_pos (by omega)]
    | succ f' =>
      unfold pcs
      by_cases hv : vis B ≤ w
      · rw [if_pos hv, if_pos hv]
      · have := vis_cutB w B (by omega)
        rw [if_neg hv, if_neg hv, ih f' _ _ (by omega) (by omega)]
theorem pcs_len (w : Nat) (hw : 1 ≤ w) : ∀ f m B, (pcs w f m B).length ≤ vis B + 1 := by
  intro f
  induction f with
  | zero => intro m B; simp [pcs]
  | succ f ih =>
    intro m B
    unfold pcs
    split
    · simp
    · have h1 := ih (mkF m (cutA w B)) (cutB w B)
      have := vis_cutB w B (by omega)
      simp only [List.length_cons]; omega
end Mine
end
section
namespace Mine
theorem sh_int (i : Int) : SeqAt.shaped (.int i) = true := shaped_of (n := 0) (by decide) rfl (Nat.le_refl _)
theorem sh_str {l : List Nat} (h : ∀ c ∈ l, c < 128) : SeqAt.shaped (.str (mkS l)) = true := shaped_of (n := 0) (by decide) (strOk_mk h) (Nat.le_refl _)
theorem cmp_IS {H : LH} {R : Bool → Prop} {i : Int} {l : List Nat} (hl : ∀ c ∈ l, c < 128) (h : R false) : cmpW .Eq (.int i) (.str (mkS l)) H R :=
  ⟨_, _, .int i, .str _, sh_int i, sh_str hl, h⟩
theorem cmp_SI {H : LH} {R : Bool → Prop} {i : Int} {l : List Nat} (hl : ∀ c ∈ l, c < 128) (h : R false) : cmpW .Eq (.str (mkS l)) (.int i) H R :=
  ⟨_, _, .str _, .int i, sh_str hl, sh_int i, h⟩
/-- the lines of the law -/
inductive OkLine : PV → Bool → Prop
  | int (i : Int) : OkLine (.int i) (i != 0)
  | no : OkLine (.str (mkS [])) false
  | more : OkLine (.str (mkS [62])) true
theorem OkLine.truth {p : PV} {t : Bool} (h : OkLine p t) : ∀ (H : LH) (R : Bool → Prop), R t → truthW p H R := by
  intro H R hR
  cases h with
  | int i => exact hR
  | no => exact ⟨by rw [mkS_len]; decide, by rw [mkS_len]; exact hR⟩
  | more => exact ⟨by rw [mkS_len]; decide, by rw [mkS_len]; exact hR⟩
theorem OkLine.gd {p : PV} {t : Bool} (h : OkLine p t) (H : LH) (n : Nat) : Gd H n p := by
  cases h with
  | int i => exact .int n i
  | no => exact .str n (strOk_mk fun _ h => by cases h)
  | more => exact .str n (strOk_mk fun c h => by rw [List.mem_singleton] at h; subst h; decide)
theorem rows_gd {H : LH} {line : PV} {t : Bool} (hl : OkLine line t) : ∀ (ps : List (List Nat)), (∀ p ∈ ps, ∀ c ∈ p, c < 128) → ∀ r ∈ rowsOf line ps, Gd H 60 r := by
  intro ps h r hr
  cases ps with
  | nil => cases hr
  | cons p ps =>
    rcases List.mem_cons.mp hr with rfl | hr
    · exact .tup (.cons (hl.gd H _) (.cons (.str _ (strOk_mk (h p List.mem_cons_self))) (.nil _)))
    · obtain ⟨q, hq, rfl⟩ := List.mem_map.mp hr
      exact .tup (.cons (OkLine.more.gd H _) (.cons (.str _ (strOk_mk (h q (List.mem_cons_of_mem _ hq)))) (.nil _)))
def nums09 (ws : List Int) : List Int := ws ++ [0, 0, 9, 1, 1, 0, 49].drop ws.length
theorem nums09_pv (ws : List Int) : ws.map PV.int ++ ([PV.int 0, .int 0, .int 9, .int 1, .int 1, .int 0, .int 49] : List PV).drop ws.length = (nums09 ws).map PV.int := by
  unfold nums09
  rw [List.map_append, List.map_drop]; rfl
theorem nums09_len (ws : List Int) (h : ws.length ≤ 63) : 7 ≤ (nums09 ws).length ∧ (nums09 ws).length ≤ 63 := by
  unfold nums09; simp only [List.length_append, List.length_drop, List.length_cons, List.length_nil]; omega
theorem OkLine.test {line : PV} {t : Bool} (h : OkLine line t) {H : LH} {R1 R2 : Prop} (h0 : t = false → R1) (h1 : t = true → R2) :
    cmpW .Eq line (.str (mkS [])) H fun c => if c = true then R1 else cmpW .Eq line (.int 0) H fun c => if c = true then R1 else if false = true then R1 else R2 := by
  have no : ∀ {P Q : Prop}, Q → if false = true then P else Q := fun h => by rw [if_neg (by decide)]; exact h
  cases h with
  | int i =>
    refine cmp_IS (fun _ h => by cases h) (no (cmp_eqI ?_))
    by_cases e : i = 0
    · rw [if_pos (by simp [e])]; exact h0 (by simp [e])
    · rw [if_neg (by simpa using e)]; exact no (h1 (by simpa using e))
  | no =>
    refine cmp_eqS ?_
    rw [if_pos (by simp)]; exact h0 rfl
  | more =>
    refine cmp_eqS ?_
    rw [mkS_beq, if_neg (by decide)]
    exact cmp_SI (fun c h => by rw [List.mem_singleton] at h; subst h; decide) (no (no (h1 rfl)))
end Mine
end
open_top hd09 for PySem.Challenge.rw_dm0063_09
section
namespace Mine
theorem ofS0 : Str.ofString "\x00" = mkS [0] := by decide +kernel
theorem ofS1 : Str.ofString "\x01" = mkS [1] := by decide +kernel
theorem ofSe : Str.ofString "" = mkS [] := by decide +kernel
theorem ofSp : Str.ofString "+" = mkS [43] := by decide +kernel
theorem ofSm : Str.ofString "-" = mkS [45] := by decide +kernel
theorem ofSc : Str.ofString "^" = mkS [94] := by decide +kernel
theorem ofSt : Str.ofString "\t" = mkS [9] := by decide +kernel
theorem ofSg : Str.ofString ">" = mkS [62] := by decide +kernel
theorem mem_snoc {l : List Nat} {d : Nat} (h : ∀ c ∈ l, c < 128) (hd : d < 128) : ∀ c ∈ l ++ [d], c < 128 := fun c hc => by
  rcases List.mem_append.mp hc with hc | hc
  · exact h c hc
  · rw [List.mem_singleton] at hc; subst hc; exact hd
theorem mark4_lt (x : Int) : ∀ c ∈ mark4 x, c < 128 := by
  unfold mark4
  intro c hc
  split at hc
  · cases hc
  · split at hc
    · rw [List.mem_singleton] at hc; subst hc; decide
    · split at hc
      · rw [List.mem_singleton] at hc; subst hc; decide
      · rw [List.mem_singleton] at hc; subst hc; decide
/-- a text that is well marked, so long at most -/
structure Mkd (A : List Tk) (l v : Nat) : Prop where
  pw : PW [] A
  len : (flat A).length ≤ l
  vis : vis A ≤ v
  chr : ∀ c ∈ flat A, c < 128
theorem Mkd.sw {A : List Tk} {l v : Nat} {m : List Nat} (h : Mkd A l v) (hm : isMk m) (hc : ∀ c ∈ m, c < 128) : Mkd (A ++ swT (mkF [] A) m) (l + 3) v := by
  obtain ⟨f1, f2, f3, f4⟩ := swT_ok A m h.pw hm
  have h1 := pre_len _ hm
  have h2 := post_len (mkF [] A)
  have h3 := h.len
  refine ⟨f1, by rw [f3]; simp; omega, by rw [f4]; exact h.vis, ?_⟩
  rw [f3]
  intro c hx
  rcases List.mem_append.mp hx with hx | hx
  · rcases List.mem_append.mp hx with hx | hx
    · exact h.chr c hx
    · rw [post_mem _ c hx]; decide
  · rcases pre_mem _ c hx with rfl | hx
    · decide
    · exact hc c hx
theorem Mkd.sg {A : List Tk} {l v c : Nat} (h : Mkd A l v) (h2 : 2 ≤ c) (h3 : c < 128) : Mkd (A ++ [.sg c]) (l + 1) (v + 1) := by
  obtain ⟨g1, g2, g3, g4⟩ := sg_ok A c h.pw h2
  have h5 := h.len
  have h6 := h.vis
  exact ⟨g1, by rw [g3]; simp; omega, by rw [g4]; omega, by rw [g3]; exact mem_snoc h.chr h3⟩
theorem Mkd.le {A : List Tk} {l v l' v' : Nat} (h : Mkd A l v) (h1 : l ≤ l') (h2 : v ≤ v') : Mkd A l' v' := ⟨h.pw, Nat.le_trans h.len h1, Nat.le_trans h.vis h2, h.chr⟩
def SwS (σ : St) (Q : Fl → St → Prop) : Prop :=
  ∃ (A : List Tk) (x : Int) (m : List Nat) (l v : Nat), Mkd A l v ∧ l ≤ 1000 ∧ isMk m ∧ (∀ c ∈ m, c < 128) ∧ σ.loc "x" = some (.int x) ∧ σ.loc "mark" = some (.str (mkS m)) ∧ σ.loc "text" = some (.str (mkS (flat A))) ∧ σ.loc "now" = some (.str (mkS (mkF [] A))) ∧
    ∀ σ' A', SameBut ["text", "now"] σ σ' → Mkd A' (l + 3) v → mkF [] A' = m → σ'.loc "text" = some (.str (mkS (flat A'))) → σ'.loc "now" = some (.str (mkS m)) → Q .next σ'
def SgS (σ : St) (Q : Fl → St → Prop) : Prop :=
  ∃ (A : List Tk) (x : Int) (l v : Nat), Mkd A l v ∧ l ≤ 1000 ∧ σ.loc "x" = some (.int x) ∧ σ.loc "text" = some (.str (mkS (flat A))) ∧
    ∀ σ' A', SameBut ["text"] σ σ' → Mkd A' (l + 1) (v + 1) → mkF [] A' = mkF [] A → σ'.loc "text" = some (.str (mkS (flat A'))) → Q .next σ'
theorem marked_fn (w : World) : ∃ Fb, Fn (hd09.heap_39 w.params) w 124 ["numbers"] 5 Fb ∧ ∀ (ws : List Int) (H : LH) (Q : PV → LH → Prop), ws.length ≤ 61 →
    (∀ T, PW [] T → mkF [] T = [] → (flat T).length ≤ 250 → vis T ≤ 61 → (∀ c ∈ flat T, c < 128) → Q (.str (mkS (flat T))) H) → callW ["numbers"] Fb [.lst (ws.map .int)] H Q := by
  refine' ⟨_, Fn.intro ?ho ?hcd ?hkp ?hco ?hgen ?hk ?hbind ?hkind ?hnn ?hnd ?hb, ?_⟩
  case ho => k_is
  case hcd => k_is
  case hkp => k_is
  case hco => rfl
  case hgen => rfl
  case hk => rfl
  case hbind => exact fun s => bind1 fun a => rfl
  case hkind => decide +kernel
  case hnn => decide
  case hnd => decide +kernel
  case hb =>
    intro h₀ prog G L'
    with_reducible refine' xs_cons ?_ ?_
    · repeat' (first | with_reducible exact ev_int _ _ _ | with_reducible exact ev_str _ _ _ | with_reducible exact ev_none _ _ | with_reducible exact ev_bool _ _ _ | (with_reducible refine' ev_name _ _ ?_ ?_) | (with_reducible refine' ev_binop ?_ ?_) | (with_reducible refine' ev_neg ?_) | (with_reducible refine' ev_cmp ?_ ?_ ?_) | (with_reducible refine' ev_ifexp ?_ ?_ ?_) | (with_reducible refine' ev_list ?_) | (with_reducible refine' ev_tuple ?_) | with_reducible exact es_nil | (with_reducible refine' es_cons ?_ ?_ ?_) | (with_reducible refine' ev_cut ?_ ?_ ?_) | (with_reducible refine' ev_idx ?_ ?_ ?_) | with_reducible exact pt_none | (with_reducible refine' pt_some ?_) | (with_reducible refine' bt_cmp ?_ ?_ ?_) | (with_reducible refine' bt_not ?_) | (with_reducible refine' bt_bool ?_) | with_reducible exact at_and_nil | with_reducible exact at_or_nil | (with_reducible refine' at_and_cons ?_ ?_) | (with_reducible refine' at_or_cons ?_ ?_) | with_reducible exact xs_nil | (with_reducible refine' xs_cons ?_ ?_) | (with_reducible refine' st_assign ?_ ?_ ?_) | (with_reducible refine' st_aug ?_ ?_ ?_) | (with_reducible refine' st_if ?_ ?_ ?_) | (with_reducible refine' st_append ?_ ?_ ?_ ?_ ?_ ?_) | (with_reducible refine' st_augidx ?_ ?_ ?_ ?_) | (with_reducible refine' st_ret ?_) | with_reducible exact st_ret0 | with_reducible exact st_cont | with_reducible exact st_pass | (with_reducible refine' st_while ?_ ?_) | (with_reducible refine' st_for ?_ (as_name ?_) ?_ ?_ ?_) | (with_reducible refine' ev_len (by assumption) ?_ ?_ ?_ ?_ ?_ ?_ ?_ ?_) | (with_reducible refine' ev_chr (by assumption) ?_ ?_ ?_ ?_ ?_ ?_ ?_ ?_) | (with_reducible refine' ev_range (by assumption) ?_ ?_ ?_ ?_ ?_ ?_ ?_ ?_) | (with_reducible refine' ev_abs (by assumption) ?_ ?_ ?_ ?_ ?_ ?_ ?_ ?_) | (with_reducible refine' ev_count _ ?_ ?_ ?_ ?_ ?_) | (with_reducible refine' ev_split _ ?_ ?_ ?_ ?_ ?_) | (with_reducible refine' ev_index _ ?_ ?_ ?_ ?_) | (with_reducible refine' ev_attr (C := 113) (by assumption) ?_ ?_ ?_ ?_ ?_ ?_) | with_reducible exact ts_nil | (with_reducible refine' ts_one ?_) | ((with_reducible show nsIn _ _ _ = _); k_is) | ((with_reducible show plainGet _ _ _ = _); k_is) | ((with_reducible show hasDictIn _ _ = _); k_is) | ((with_reducible show findIn _ _ _ = _); k_is) | ((with_reducible show noGet _ _ = _); k_is) | ((with_reducible show Stores _ _); first | exact Or.inl rfl | exact Or.inr ⟨rfl, rfl⟩) | ((with_reducible show (_ == _) = false); decide) | ((with_reducible show behindInMarks _ _ = _); with_unfolding_all rfl) | ((with_reducible show _ ≤ _); decide) | ((with_reducible show _ = _); rfl) | ((with_reducible show ∀ _, _ = _); intro _; rfl) | ((with_reducible show ∀ _ _, _ = _); intro _ _; rfl) | ((with_reducible show ∀ _ _ _, _ = _); intro _ _ _; rfl) | (with_reducible refine' bt_val ?_ ?_))
    with_reducible refine' xs_cons ?_ ?_
    · repeat' (first | with_reducible exact ev_int _ _ _ | with_reducible exact ev_str _ _ _ | with_reducible exact ev_none _ _ | with_reducible exact ev_bool _ _ _ | (with_reducible refine' ev_name _ _ ?_ ?_) | (with_reducible refine' ev_binop ?_ ?_) | (with_reducible refine' ev_neg ?_) | (with_reducible refine' ev_cmp ?_ ?_ ?_) | (with_reducible refine' ev_ifexp ?_ ?_ ?_) | (with_reducible refine' ev_list ?_) | (with_reducible refine' ev_tuple ?_) | with_reducible exact es_nil | (with_reducible refine' es_cons ?_ ?_ ?_) | (with_reducible refine' ev_cut ?_ ?_ ?_) | (with_reducible refine' ev_idx ?_ ?_ ?_) | with_reducible exact pt_none | (with_reducible refine' pt_some ?_) | (with_reducible refine' bt_cmp ?_ ?_ ?_) | (with_reducible refine' bt_not ?_) | (with_reducible refine' bt_bool ?_) | with_reducible exact at_and_nil | with_reducible exact at_or_nil | (with_reducible refine' at_and_cons ?_ ?_) | (with_reducible refine' at_or_cons ?_ ?_) | with_reducible exact xs_nil | (with_reducible refine' xs_cons ?_ ?_) | (with_reducible refine' st_assign ?_ ?_ ?_) | (with_reducible refine' st_aug ?_ ?_ ?_) | (with_reducible refine' st_if ?_ ?_ ?_) | (with_reducible refine' st_append ?_ ?_ ?_ ?_ ?_ ?_) | (with_reducible refine' st_augidx ?_ ?_ ?_ ?_) | (with_reducible refine' st_ret ?_) | with_reducible exact st_ret0 | with_reducible exact st_cont | with_reducible exact st_pass | (with_reducible refine' st_while ?_ ?_) | (with_reducible refine' st_for ?_ (as_name ?_) ?_ ?_ ?_) | (with_reducible refine' ev_len (by assumption) ?_ ?_ ?_ ?_ ?_ ?_ ?_ ?_) | (with_reducible refine' ev_chr (by assumption) ?_ ?_ ?_ ?_ ?_ ?_ ?_ ?_) | (with_reducible refine' ev_range (by assumption) ?_ ?_ ?_ ?_ ?_ ?_ ?_ ?_) | (with_reducible refine' ev_abs (by assumption) ?_ ?_ ?_ ?_ ?_ ?_ ?_ ?_) | (with_reducible refine' ev_count _ ?_ ?_ ?_ ?_ ?_) | (with_reducible refine' ev_split _ ?_ ?_ ?_ ?_ ?_) | (with_reducible refine' ev_index _ ?_ ?_ ?_ ?_) | (with_reducible refine' ev_attr (C := 113) (by assumption) ?_ ?_ ?_ ?_ ?_ ?_) | with_reducible exact ts_nil | (with_reducible refine' ts_one ?_) | ((with_reducible show nsIn _ _ _ = _); k_is) | ((with_reducible show plainGet _ _ _ = _); k_is) | ((with_reducible show hasDictIn _ _ = _); k_is) | ((with_reducible show findIn _ _ _ = _); k_is) | ((with_reducible show noGet _ _ = _); k_is) | ((with_reducible show Stores _ _); first | exact Or.inl rfl | exact Or.inr ⟨rfl, rfl⟩) | ((with_reducible show (_ == _) = false); decide) | ((with_reducible show behindInMarks _ _ = _); with_unfolding_all rfl) | ((with_reducible show _ ≤ _); decide) | ((with_reducible show _ = _); rfl) | ((with_reducible show ∀ _, _ = _); intro _; rfl) | ((with_reducible show ∀ _ _, _ = _); intro _ _; rfl) | ((with_reducible show ∀ _ _ _, _ = _); intro _ _ _; rfl) | (with_reducible refine' bt_val ?_ ?_))
    with_reducible refine' xs_cons ?_ ?_
    · with_reducible refine' st_for ?fi (as_name ?fk) ?fbb ?fm ?fl
      case fk => exact Or.inl rfl
      case fm => intro _; rfl
      case fl => intro _ _; rfl
      case fi => repeat' (first | with_reducible exact ev_int _ _ _ | with_reducible exact ev_str _ _ _ | with_reducible exact ev_none _ _ | with_reducible exact ev_bool _ _ _ | (with_reducible refine' ev_name _ _ ?_ ?_) | (with_reducible refine' ev_binop ?_ ?_) | (with_reducible refine' ev_neg ?_) | (with_reducible refine' ev_cmp ?_ ?_ ?_) | (with_reducible refine' ev_ifexp ?_ ?_ ?_) | (with_reducible refine' ev_list ?_) | (with_reducible refine' ev_tuple ?_) | with_reducible exact es_nil | (with_reducible refine' es_cons ?_ ?_ ?_) | (with_reducible refine' ev_cut ?_ ?_ ?_) | (with_reducible refine' ev_idx ?_ ?_ ?_) | with_reducible exact pt_none | (with_reducible refine' pt_some ?_) | (with_reducible refine' bt_cmp ?_ ?_ ?_) | (with_reducible refine' bt_not ?_) | (with_reducible refine' bt_bool ?_) | with_reducible exact at_and_nil | with_reducible exact at_or_nil | (with_reducible refine' at_and_cons ?_ ?_) | (with_reducible refine' at_or_cons ?_ ?_) | with_reducible exact xs_nil | (with_reducible refine' xs_cons ?_ ?_) | (with_reducible refine' st_assign ?_ ?_ ?_) | (with_reducible refine' st_aug ?_ ?_ ?_) | (with_reducible refine' st_if ?_ ?_ ?_) | (with_reducible refine' st_append ?_ ?_ ?_ ?_ ?_ ?_) | (with_reducible refine' st_augidx ?_ ?_ ?_ ?_) | (with_reducible refine' st_ret ?_) | with_reducible exact st_ret0 | with_reducible exact st_cont | with_reducible exact st_pass | (with_reducible refine' st_while ?_ ?_) | (with_reducible refine' st_for ?_ (as_name ?_) ?_ ?_ ?_) | (with_reducible refine' ev_len (by assumption) ?_ ?_ ?_ ?_ ?_ ?_ ?_ ?_) | (with_reducible refine' ev_chr (by assumption) ?_ ?_ ?_ ?_ ?_ ?_ ?_ ?_) | (with_reducible refine' ev_range (by assumption) ?_ ?_ ?_ ?_ ?_ ?_ ?_ ?_) | (with_reducible refine' ev_abs (by assumption) ?_ ?_ ?_ ?_ ?_ ?_ ?_ ?_) | (with_reducible refine' ev_count _ ?_ ?_ ?_ ?_ ?_) | (with_reducible refine' ev_split _ ?_ ?_ ?_ ?_ ?_) | (with_reducible refine' ev_index _ ?_ ?_ ?_ ?_) | (with_reducible refine' ev_attr (C := 113) (by assumption) ?_ ?_ ?_ ?_ ?_ ?_) | with_reducible exact ts_nil | (with_reducible refine' ts_one ?_) | ((with_reducible show nsIn _ _ _ = _); k_is) | ((with_reducible show plainGet _ _ _ = _); k_is) | ((with_reducible show hasDictIn _ _ = _); k_is) | ((with_reducible show findIn _ _ _ = _); k_is) | ((with_reducible show noGet _ _ = _); k_is) | ((with_reducible show Stores _ _); first | exact Or.inl rfl | exact Or.inr ⟨rfl, rfl⟩) | ((with_reducible show (_ == _) = false); decide) | ((with_reducible show behindInMarks _ _ = _); with_unfolding_all rfl) | ((with_reducible show _ ≤ _); decide) | ((with_reducible show _ = _); rfl) | ((with_reducible show ∀ _, _ = _); intro _; rfl) | ((with_reducible show ∀ _ _, _ = _); intro _ _; rfl) | ((with_reducible show ∀ _ _ _, _ = _); intro _ _ _; rfl) | (with_reducible refine' bt_val ?_ ?_))
      case fbb =>
        with_reducible refine' xs_cons ?s1 ?t1
        case s1 => repeat' (first | with_reducible exact ev_int _ _ _ | with_reducible exact ev_str _ _ _ | with_reducible exact ev_none _ _ | with_reducible exact ev_bool _ _ _ | (with_reducible refine' ev_name _ _ ?_ ?_) | (with_reducible refine' ev_binop ?_ ?_) | (with_reducible refine' ev_neg ?_) | (with_reducible refine' ev_cmp ?_ ?_ ?_) | (with_reducible refine' ev_ifexp ?_ ?_ ?_) | (with_reducible refine' ev_list ?_) | (with_reducible refine' ev_tuple ?_) | with_reducible exact es_nil | (with_reducible refine' es_cons ?_ ?_ ?_) | (with_reducible refine' ev_cut ?_ ?_ ?_) | (with_reducible refine' ev_idx ?_ ?_ ?_) | with_reducible exact pt_none | (with_reducible refine' pt_some ?_) | (with_reducible refine' bt_cmp ?_ ?_ ?_) | (with_reducible refine' bt_not ?_) | (with_reducible refine' bt_bool ?_) | with_reducible exact at_and_nil | with_reducible exact at_or_nil | (with_reducible refine' at_and_cons ?_ ?_) | (with_reducible refine' at_or_cons ?_ ?_) | with_reducible exact xs_nil | (with_reducible refine' xs_cons ?_ ?_) | (with_reducible refine' st_assign ?_ ?_ ?_) | (with_reducible refine' st_aug ?_ ?_ ?_) | (with_reducible refine' st_if ?_ ?_ ?_) | (with_reducible refine' st_append ?_ ?_ ?_ ?_ ?_ ?_) | (with_reducible refine' st_augidx ?_ ?_ ?_ ?_) | (with_reducible refine' st_ret ?_) | with_reducible exact st_ret0 | with_reducible exact st_cont | with_reducible exact st_pass | (with_reducible refine' st_while ?_ ?_) | (with_reducible refine' st_for ?_ (as_name ?_) ?_ ?_ ?_) | (with_reducible refine' ev_len (by assumption) ?_ ?_ ?_ ?_ ?_ ?_ ?_ ?_) | (with_reducible refine' ev_chr (by assumption) ?_ ?_ ?_ ?_ ?_ ?_ ?_ ?_) | (with_reducible refine' ev_range (by assumption) ?_ ?_ ?_ ?_ ?_ ?_ ?_ ?_) | (with_reducible refine' ev_abs (by assumption) ?_ ?_ ?_ ?_ ?_ ?_ ?_ ?_) | (with_reducible refine' ev_count _ ?_ ?_ ?_ ?_ ?_) | (with_reducible refine' ev_split _ ?_ ?_ ?_ ?_ ?_) | (with_reducible refine' ev_index _ ?_ ?_ ?_ ?_) | (with_reducible refine' ev_attr (C := 113) (by assumption) ?_ ?_ ?_ ?_ ?_ ?_) | with_reducible exact ts_nil | (with_reducible refine' ts_one ?_) | ((with_reducible show nsIn _ _ _ = _); k_is) | ((with_reducible show plainGet _ _ _ = _); k_is) | ((with_reducible show hasDictIn _ _ = _); k_is) | ((with_reducible show findIn _ _ _ = _); k_is) | ((with_reducible show noGet _ _ = _); k_is) | ((with_reducible show Stores _ _); first | exact Or.inl rfl | exact Or.inr ⟨rfl, rfl⟩) | ((with_reducible show (_ == _) = false); decide) | ((with_reducible show behindInMarks _ _ = _); with_unfolding_all rfl) | ((with_reducible show _ ≤ _); decide) | ((with_reducible show _ = _); rfl) | ((with_reducible show ∀ _, _ = _); intro _; rfl) | ((with_reducible show ∀ _ _, _ = _); intro _ _; rfl) | ((with_reducible show ∀ _ _ _, _ = _); intro _ _ _; rfl) | (with_reducible refine' bt_val ?_ ?_))
        case t1 =>
          with_reducible refine' xs_cons ?s2 ?t2
          case s2 =>
            refine' ExOk.mono (F' := SwS) ?sw ?swm
            case sw => repeat' (first | with_reducible exact ev_int _ _ _ | with_reducible exact ev_str _ _ _ | with_reducible exact ev_none _ _ | with_reducible exact ev_bool _ _ _ | (with_reducible refine' ev_name _ _ ?_ ?_) | (with_reducible refine' ev_binop ?_ ?_) | (with_reducible refine' ev_neg ?_) | (with_reducible refine' ev_cmp ?_ ?_ ?_) | (with_reducible refine' ev_ifexp ?_ ?_ ?_) | (with_reducible refine' ev_list ?_) | (with_reducible refine' ev_tuple ?_) | with_reducible exact es_nil | (with_reducible refine' es_cons ?_ ?_ ?_) | (with_reducible refine' ev_cut ?_ ?_ ?_) | (with_reducible refine' ev_idx ?_ ?_ ?_) | with_reducible exact pt_none | (with_reducible refine' pt_some ?_) | (with_reducible refine' bt_cmp ?_ ?_ ?_) | (with_reducible refine' bt_not ?_) | (with_reducible refine' bt_bool ?_) | with_reducible exact at_and_nil | with_reducible exact at_or_nil | (with_reducible refine' at_and_cons ?_ ?_) | (with_reducible refine' at_or_cons ?_ ?_) | with_reducible exact xs_nil | (with_reducible refine' xs_cons ?_ ?_) | (with_reducible refine' st_assign ?_ ?_ ?_) | (with_reducible refine' st_aug ?_ ?_ ?_) | (with_reducible refine' st_if ?_ ?_ ?_) | (with_reducible refine' st_append ?_ ?_ ?_ ?_ ?_ ?_) | (with_reducible refine' st_augidx ?_ ?_ ?_ ?_) | (with_reducible refine' st_ret ?_) | with_reducible exact st_ret0 | with_reducible exact st_cont | with_reducible exact st_pass | (with_reducible refine' st_while ?_ ?_) | (with_reducible refine' st_for ?_ (as_name ?_) ?_ ?_ ?_) | (with_reducible refine' ev_len (by assumption) ?_ ?_ ?_ ?_ ?_ ?_ ?_ ?_) | (with_reducible refine' ev_chr (by assumption) ?_ ?_ ?_ ?_ ?_ ?_ ?_ ?_) | (with_reducible refine' ev_range (by assumption) ?_ ?_ ?_ ?_ ?_ ?_ ?_ ?_) | (with_reducible refine' ev_abs (by assumption) ?_ ?_ ?_ ?_ ?_ ?_ ?_ ?_) | (with_reducible refine' ev_count _ ?_ ?_ ?_ ?_ ?_) | (with_reducible refine' ev_split _ ?_ ?_ ?_ ?_ ?_) | (with_reducible refine' ev_index _ ?_ ?_ ?_ ?_) | (with_reducible refine' ev_attr (C := 113) (by assumption) ?_ ?_ ?_ ?_ ?_ ?_) | with_reducible exact ts_nil | (with_reducible refine' ts_one ?_) | ((with_reducible show nsIn _ _ _ = _); k_is) | ((with_reducible show plainGet _ _ _ = _); k_is) | ((with_reducible show hasDictIn _ _ = _); k_is) | ((with_reducible show findIn _ _ _ = _); k_is) | ((with_reducible show noGet _ _ = _); k_is) | ((with_reducible show Stores _ _); first | exact Or.inl rfl | exact Or.inr ⟨rfl, rfl⟩) | ((with_reducible show (_ == _) = false); decide) | ((with_reducible show behindInMarks _ _ = _); with_unfolding_all rfl) | ((with_reducible show _ ≤ _); decide) | ((with_reducible show _ = _); rfl) | ((with_reducible show ∀ _, _ = _); intro _; rfl) | ((with_reducible show ∀ _ _, _ = _); intro _ _; rfl) | ((with_reducible show ∀ _ _ _, _ = _); intro _ _ _; rfl) | (with_reducible refine' bt_val ?_ ?_))
            case swm =>
              rintro ⟨loc, H'⟩ Q ⟨A, x, m, l, v, hA, hl, hm, hmc, lx, lm, l1, l2, hQ⟩
              simp only at lx lm l1 l2
              have hm1 : m.length ≤ 1 := by rcases hm with e | ⟨k, _, e⟩ <;> rw [e] <;> simp
              obtain ⟨f1, f2, f3, f4⟩ := swT_ok A m hA.pw hm
              have hpl := pre_len _ hm
              have hpo := post_len (mkF [] A)
              have hlA := hA.len
              simp only [ofS0, ofS1, ofSe, Loc.set_apply, String.reduceEq, reduceIte, getW_some, lx, lm, l1, l2]
              refine cmp_neS ?_
              by_cases hne : m = mkF [] A
              · rw [if_neg (by rw [hne]; simp)]
                refine bin_divI (by decide) (by decide) (bin_modI (by decide) (cmp_eqI ?_))
                by_cases h2 : (x.fdiv 4).fmod 2 = 1
                · rw [if_pos (by simp [h2])]
                  refine cmp_neS (ifexp_post (R := fun v => inW .Add (.str _) v _ _) (in_addS (x := mkS (flat A)) (y := mkS (post (mkF [] A))) (by rw [mkS_len, mkS_len, sizeLine_eq]; omega) ?_))
                  rw [mkS_append]
                  refine cmp_neS (ifexp_pre (R := fun v H => inW .Add (.str _) v H _) hm1 (in_addS (x := mkS _) (y := mkS _) (by rw [mkS_len, mkS_len, sizeLine_eq]; simp; omega) ?_))
                  rw [mkS_append, ← f3]
                  exact hQ _ _ (((SameBut.refl _ _).set (by decide)).set (by decide) |>.set (by decide)) (hA.sw hm hmc) f2 (by simp only [Loc.set_apply, String.reduceEq, reduceIte]) (by simp only [Loc.set_apply, String.reduceEq, reduceIte])
                · rw [if_neg (by simpa using h2), if_neg (by decide)]
                  exact hQ _ A (SameBut.refl _ _) (hA.le (by omega) (Nat.le_refl _)) hne.symm l1 (by rw [hne]; exact l2)
              · rw [if_pos (by rw [bne, mkS_beq]; simpa using hne)]
                refine cmp_neS (ifexp_post (R := fun v => inW .Add (.str _) v _ _) (in_addS (x := mkS (flat A)) (y := mkS (post (mkF [] A))) (by rw [mkS_len, mkS_len, sizeLine_eq]; omega) ?_))
                rw [mkS_append]
                refine cmp_neS (ifexp_pre (R := fun v H => inW .Add (.str _) v H _) hm1 (in_addS (x := mkS _) (y := mkS _) (by rw [mkS_len, mkS_len, sizeLine_eq]; simp; omega) ?_))
                rw [mkS_append, ← f3]
                exact hQ _ _ (((SameBut.refl _ _).set (by decide)).set (by decide) |>.set (by decide)) (hA.sw hm hmc) f2 (by simp only [Loc.set_apply, String.reduceEq, reduceIte]) (by simp only [Loc.set_apply, String.reduceEq, reduceIte])
          case t2 =>
            with_reducible refine' xs_cons ?s3 ?t3
            case s3 =>
              refine' ExOk.mono (F' := SgS) ?sg ?sgm
              case sg => repeat' (first | with_reducible exact ev_int _ _ _ | with_reducible exact ev_str _ _ _ | with_reducible exact ev_none _ _ | with_reducible exact ev_bool _ _ _ | (with_reducible refine' ev_name _ _ ?_ ?_) | (with_reducible refine' ev_binop ?_ ?_) | (with_reducible refine' ev_neg ?_) | (with_reducible refine' ev_cmp ?_ ?_ ?_) | (with_reducible refine' ev_ifexp ?_ ?_ ?_) | (with_reducible refine' ev_list ?_) | (with_reducible refine' ev_tuple ?_) | with_reducible exact es_nil | (with_reducible refine' es_cons ?_ ?_ ?_) | (with_reducible refine' ev_cut ?_ ?_ ?_) | (with_reducible refine' ev_idx ?_ ?_ ?_) | with_reducible exact pt_none | (with_reducible refine' pt_some ?_) | (with_reducible refine' bt_cmp ?_ ?_ ?_) | (with_reducible refine' bt_not ?_) | (with_reducible refine' bt_bool ?_) | with_reducible exact at_and_nil | with_reducible exact at_or_nil | (with_reducible refine' at_and_cons ?_ ?_) | (with_reducible refine' at_or_cons ?_ ?_) | with_reducible exact xs_nil | (with_reducible refine' xs_cons ?_ ?_) | (with_reducible refine' st_assign ?_ ?_ ?_) | (with_reducible refine' st_aug ?_ ?_ ?_) | (with_reducible refine' st_if ?_ ?_ ?_) | (with_reducible refine' st_append ?_ ?_ ?_ ?_ ?_ ?_) | (with_reducible refine' st_augidx ?_ ?_ ?_ ?_) | (with_reducible refine' st_ret ?_) | with_reducible exact st_ret0 | with_reducible exact st_cont | with_reducible exact st_pass | (with_reducible refine' st_while ?_ ?_) | (with_reducible refine' st_for ?_ (as_name ?_) ?_ ?_ ?_) | (with_reducible refine' ev_len (by assumption) ?_ ?_ ?_ ?_ ?_ ?_ ?_ ?_) | (with_reducible refine' ev_chr (by assumption) ?_ ?_ ?_ ?_ ?_ ?_ ?_ ?_) | (with_reducible refine' ev_range (by assumption) ?_ ?_ ?_ ?_ ?_ ?_ ?_ ?_) | (with_reducible refine' ev_abs (by assumption) ?_ ?_ ?_ ?_ ?_ ?_ ?_ ?_) | (with_reducible refine' ev_count _ ?_ ?_ ?_ ?_ ?_) | (with_reducible refine' ev_split _ ?_ ?_ ?_ ?_ ?_) | (with_reducible refine' ev_index _ ?_ ?_ ?_ ?_) | (with_reducible refine' ev_attr (C := 113) (by assumption) ?_ ?_ ?_ ?_ ?_ ?_) | with_reducible exact ts_nil | (with_reducible refine' ts_one ?_) | ((with_reducible show nsIn _ _ _ = _); k_is) | ((with_reducible show plainGet _ _ _ = _); k_is) | ((with_reducible show hasDictIn _ _ = _); k_is) | ((with_reducible show findIn _ _ _ = _); k_is) | ((with_reducible show noGet _ _ = _); k_is) | ((with_reducible show Stores _ _); first | exact Or.inl rfl | exact Or.inr ⟨rfl, rfl⟩) | ((with_reducible show (_ == _) = false); decide) | ((with_reducible show behindInMarks _ _ = _); with_unfolding_all rfl) | ((with_reducible show _ ≤ _); decide) | ((with_reducible show _ = _); rfl) | ((with_reducible show ∀ _, _ = _); intro _; rfl) | ((with_reducible show ∀ _ _, _ = _); intro _ _; rfl) | ((with_reducible show ∀ _ _ _, _ = _); intro _ _ _; rfl) | (with_reducible refine' bt_val ?_ ?_))
              case sgm =>
                rintro ⟨loc, H'⟩ Q ⟨A, x, l, v, hA, hl, lx, l1, hQ⟩
                simp only at lx l1
                have hlA := hA.len
                simp only [ofSt, Loc.set_apply, String.reduceEq, reduceIte, getW_some, lx, l1]
                refine bin_divI (by decide) (by decide) (bin_modI (by decide) (cmp_neI ?_))
                by_cases h5 : (x.fdiv 8).fmod 5 = 4
                · rw [if_neg (by simp [h5])]
                  exact hQ _ A (SameBut.refl _ _) (hA.le (by omega) (by omega)) rfl l1
                · rw [if_pos (by simpa using h5)]
                  have h96 := fm_ok (x.fdiv 40) (k := 96) (by decide)
                  refine bin_divI (by decide) (by decide) (bin_modI (by decide) (cmp_eqI ?_))
                  by_cases h95 : (x.fdiv 40).fmod 96 = 95
                  · rw [if_pos (by simp [h95])]
                    obtain ⟨g1, g2, g3, g4⟩ := sg_ok A 9 hA.pw (by decide)
                    refine in_addS (x := mkS _) (y := mkS [9]) (by rw [mkS_len, mkS_len, sizeLine_eq]; simp; omega) ?_
                    rw [mkS_append, ← g3]
                    exact hQ _ _ ((SameBut.refl _ _).set (by decide)) (hA.sg (by decide) (by decide)) g2 (by simp only [Loc.set_apply, reduceIte])
                  · rw [if_neg (by simpa using h95)]
                    obtain ⟨c, hc⟩ : ∃ c : Nat, 32 + (x.fdiv 40).fmod 96 = (c : Int) := ⟨(32 + (x.fdiv 40).fmod 96).toNat, by omega⟩
                    obtain ⟨g1, g2, g3, g4⟩ := sg_ok A c hA.pw (by omega)
                    refine bin_divI (by decide) (by decide) (bin_modI (by decide) (bin_addI (chr_W c hc (by omega) ?_)))
                    refine in_addS (x := mkS _) (y := mkS [c]) (by rw [mkS_len, mkS_len, sizeLine_eq]; simp; omega) ?_
                    rw [mkS_append, ← g3]
                    exact hQ _ _ ((SameBut.refl _ _).set (by decide)) (hA.sg (by omega) (by omega)) g2 (by simp only [Loc.set_apply, reduceIte])
            case t3 => repeat' (first | with_reducible exact ev_int _ _ _ | with_reducible exact ev_str _ _ _ | with_reducible exact ev_none _ _ | with_reducible exact ev_bool _ _ _ | (with_reducible refine' ev_name _ _ ?_ ?_) | (with_reducible refine' ev_binop ?_ ?_) | (with_reducible refine' ev_neg ?_) | (with_reducible refine' ev_cmp ?_ ?_ ?_) | (with_reducible refine' ev_ifexp ?_ ?_ ?_) | (with_reducible refine' ev_list ?_) | (with_reducible refine' ev_tuple ?_) | with_reducible exact es_nil | (with_reducible refine' es_cons ?_ ?_ ?_) | (with_reducible refine' ev_cut ?_ ?_ ?_) | (with_reducible refine' ev_idx ?_ ?_ ?_) | with_reducible exact pt_none | (with_reducible refine' pt_some ?_) | (with_reducible refine' bt_cmp ?_ ?_ ?_) | (with_reducible refine' bt_not ?_) | (with_reducible refine' bt_bool ?_) | with_reducible exact at_and_nil | with_reducible exact at_or_nil | (with_reducible refine' at_and_cons ?_ ?_) | (with_reducible refine' at_or_cons ?_ ?_) | with_reducible exact xs_nil | (with_reducible refine' xs_cons ?_ ?_) | (with_reducible refine' st_assign ?_ ?_ ?_) | (with_reducible refine' st_aug ?_ ?_ ?_) | (with_reducible refine' st_if ?_ ?_ ?_) | (with_reducible refine' st_append ?_ ?_ ?_ ?_ ?_ ?_) | (with_reducible refine' st_augidx ?_ ?_ ?_ ?_) | (with_reducible refine' st_ret ?_) | with_reducible exact st_ret0 | with_reducible exact st_cont | with_reducible exact st_pass | (with_reducible refine' st_while ?_ ?_) | (with_reducible refine' st_for ?_ (as_name ?_) ?_ ?_ ?_) | (with_reducible refine' ev_len (by assumption) ?_ ?_ ?_ ?_ ?_ ?_ ?_ ?_) | (with_reducible refine' ev_chr (by assumption) ?_ ?_ ?_ ?_ ?_ ?_ ?_ ?_) | (with_reducible refine' ev_range (by assumption) ?_ ?_ ?_ ?_ ?_ ?_ ?_ ?_) | (with_reducible refine' ev_abs (by assumption) ?_ ?_ ?_ ?_ ?_ ?_ ?_ ?_) | (with_reducible refine' ev_count _ ?_ ?_ ?_ ?_ ?_) | (with_reducible refine' ev_split _ ?_ ?_ ?_ ?_ ?_) | (with_reducible refine' ev_index _ ?_ ?_ ?_ ?_) | (with_reducible refine' ev_attr (C := 113) (by assumption) ?_ ?_ ?_ ?_ ?_ ?_) | with_reducible exact ts_nil | (with_reducible refine' ts_one ?_) | ((with_reducible show nsIn _ _ _ = _); k_is) | ((with_reducible show plainGet _ _ _ = _); k_is) | ((with_reducible show hasDictIn _ _ = _); k_is) | ((with_reducible show findIn _ _ _ = _); k_is) | ((with_reducible show noGet _ _ = _); k_is) | ((with_reducible show Stores _ _); first | exact Or.inl rfl | exact Or.inr ⟨rfl, rfl⟩) | ((with_reducible show (_ == _) = false); decide) | ((with_reducible show behindInMarks _ _ = _); with_unfolding_all rfl) | ((with_reducible show _ ≤ _); decide) | ((with_reducible show _ = _); rfl) | ((with_reducible show ∀ _, _ = _); intro _; rfl) | ((with_reducible show ∀ _ _, _ = _); intro _ _; rfl) | ((with_reducible show ∀ _ _ _, _ = _); intro _ _ _; rfl) | (with_reducible refine' bt_val ?_ ?_))
    repeat' (first | with_reducible exact ev_int _ _ _ | with_reducible exact ev_str _ _ _ | with_reducible exact ev_none _ _ | with_reducible exact ev_bool _ _ _ | (with_reducible refine' ev_name _ _ ?_ ?_) | (with_reducible refine' ev_binop ?_ ?_) | (with_reducible refine' ev_neg ?_) | (with_reducible refine' ev_cmp ?_ ?_ ?_) | (with_reducible refine' ev_ifexp ?_ ?_ ?_) | (with_reducible refine' ev_list ?_) | (with_reducible refine' ev_tuple ?_) | with_reducible exact es_nil | (with_reducible refine' es_cons ?_ ?_ ?_) | (with_reducible refine' ev_cut ?_ ?_ ?_) | (with_reducible refine' ev_idx ?_ ?_ ?_) | with_reducible exact pt_none | (with_reducible refine' pt_some ?_) | (with_reducible refine' bt_cmp ?_ ?_ ?_) | (with_reducible refine' bt_not ?_) | (with_reducible refine' bt_bool ?_) | with_reducible exact at_and_nil | with_reducible exact at_or_nil | (with_reducible refine' at_and_cons ?_ ?_) | (with_reducible refine' at_or_cons ?_ ?_) | with_reducible exact xs_nil | (with_reducible refine' xs_cons ?_ ?_) | (with_reducible refine' st_assign ?_ ?_ ?_) | (with_reducible refine' st_aug ?_ ?_ ?_) | (with_reducible refine' st_if ?_ ?_ ?_) | (with_reducible refine' st_append ?_ ?_ ?_ ?_ ?_ ?_) | (with_reducible refine' st_augidx ?_ ?_ ?_ ?_) | (with_reducible refine' st_ret ?_) | with_reducible exact st_ret0 | with_reducible exact st_cont | with_reducible exact st_pass | (with_reducible refine' st_while ?_ ?_) | (with_reducible refine' st_for ?_ (as_name ?_) ?_ ?_ ?_) | (with_reducible refine' ev_len (by assumption) ?_ ?_ ?_ ?_ ?_ ?_ ?_ ?_) | (with_reducible refine' ev_chr (by assumption) ?_ ?_ ?_ ?_ ?_ ?_ ?_ ?_) | (with_reducible refine' ev_range (by assumption) ?_ ?_ ?_ ?_ ?_ ?_ ?_ ?_) | (with_reducible refine' ev_abs (by assumption) ?_ ?_ ?_ ?_ ?_ ?_ ?_ ?_) | (with_reducible refine' ev_count _ ?_ ?_ ?_ ?_ ?_) | (with_reducible refine' ev_split _ ?_ ?_ ?_ ?_ ?_) | (with_reducible refine' ev_index _ ?_ ?_ ?_ ?_) | (with_reducible refine' ev_attr (C := 113) (by assumption) ?_ ?_ ?_ ?_ ?_ ?_) | with_reducible exact ts_nil | (with_reducible refine' ts_one ?_) | ((with_reducible show nsIn _ _ _ = _); k_is) | ((with_reducible show plainGet _ _ _ = _); k_is) | ((with_reducible show hasDictIn _ _ = _); k_is) | ((with_reducible show findIn _ _ _ = _); k_is) | ((with_reducible show noGet _ _ = _); k_is) | ((with_reducible show Stores _ _); first | exact Or.inl rfl | exact Or.inr ⟨rfl, rfl⟩) | ((with_reducible show (_ == _) = false); decide) | ((with_reducible show behindInMarks _ _ = _); with_unfolding_all rfl) | ((with_reducible show _ ≤ _); decide) | ((with_reducible show _ = _); rfl) | ((with_reducible show ∀ _, _ = _); intro _; rfl) | ((with_reducible show ∀ _ _, _ = _); intro _ _; rfl) | ((with_reducible show ∀ _ _ _, _ = _); intro _ _ _; rfl) | (with_reducible refine' bt_val ?_ ?_))
  intro ws H Q hw hq
  unfold callW
  simp only [ofS1, ofSe, ofSp, ofSm, ofSc, Loc.set_apply, argLoc_cons, argLoc_nil, String.reduceEq, reduceIte, getW_some]
  refine ⟨_, trivial, rfl, ?_⟩
  refine forW_inv (fun rest σ => ∃ (A : List Tk) (todo : List Int) (l v : Nat), rest = todo.map .int ∧ σ.loc "text" = some (.str (mkS (flat A))) ∧ σ.loc "now" = some (.str (mkS (mkF [] A))) ∧ Mkd A l v ∧ σ.H = H.ro ∧ l + 4 * todo.length ≤ 244 ∧ v + todo.length ≤ 61) ?_ ?_ _ _ ?_
  · rintro p r ⟨loc, H'⟩ K ⟨A, todo, l, v, er, l1, l2, hA, l4, b1, b2⟩ kn kc
    simp only at l1 l2 l4
    subst l4
    cases todo with
    | nil => cases er
    | cons x todo =>
      cases er
      simp only [List.length_cons] at b1 b2
      dsimp only
      refine ⟨by decide, listW_lst (get_W (p := .int x) rfl (bin_modI (by decide) (mark4_idx x ?_)))⟩
      refine ⟨A, x, mark4 x, l, v, hA, by omega, mark4_isMk x, mark4_lt x, by simp only [Loc.set_apply, String.reduceEq, reduceIte], by simp only [Loc.set_apply, String.reduceEq, reduceIte], by simp only [Loc.set_apply, String.reduceEq, reduceIte, l1], by simp only [Loc.set_apply, String.reduceEq, reduceIte, l2], fun σ₁ A₁ s1 h1 m1 t1 n1 => ?_⟩
      refine ⟨A₁, x, l + 3, v, h1, by omega, s1.get (by decide) (by simp only [Loc.set_apply, String.reduceEq, reduceIte]), t1, fun σ₂ A₂ s2 h2 m2 t2 => ?_⟩
      refine kn _ ⟨A₂, todo, l + 4, v + 1, rfl, t2, ?_, h2, by rw [s2.1, s1.1], by omega, by omega⟩
      rw [m2, m1]; exact s2.get (by decide) n1
  · rintro σ ⟨A, todo, l, v, er, l1, l2, hA, l4, b1, b2⟩
    simp only [l1, l2, l4, getW_some]
    obtain ⟨f1, f2, f3, f4⟩ := swT_ok A [] hA.pw (.inl rfl)
    have hpo := post_len (mkF [] A)
    have hM := hA.sw (m := []) (.inl rfl) (fun _ h => by cases h)
    have hlA := hA.len
    have key := hq _ f1 f2 (Nat.le_trans hM.len (by omega)) (Nat.le_trans hM.vis (by omega)) hM.chr
    rw [f3, pre, List.append_nil] at key
    refine cmp_neS ?_
    rw [ne_nilS]
    cases e : mkF [] A with
    | nil =>
      rw [e] at key
      rw [if_neg (by simp)]
      refine .inl ?_
      simp only [post, List.append_nil] at key
      exact key
    | cons a r =>
      rw [e] at key
      rw [if_pos (by simp)]
      refine bin_addS (by rw [mkS_len, mkS_len, sizeLine_eq]; simp; omega) (.inl ?_)
      rw [mkS_append]
      exact key
  · refine ⟨[], ws, 0, 0, rfl, rfl, rfl, ⟨trivial, Nat.le_refl _, Nat.le_refl _, fun c hc => by cases hc⟩, rfl, ?_, ?_⟩
    · omega
    · omega
theorem running_fn (w : World) : ∃ Fb, Fn (hd09.heap_39 w.params) w 131 ["head"] 5 Fb ∧ ∀ (A : List Tk) (H : LH) (Q : PV → LH → Prop), PW [] A → (flat A).length ≤ 1000 → Q (.str (mkS (pre (mkF [] A)))) H → callW ["head"] Fb [.str (mkS (flat A))] H Q := by
  refine' ⟨_, Fn.intro ?ho ?hcd ?hkp ?hco ?hgen ?hk ?hbind ?hkind ?hnn ?hnd ?hb, ?_⟩
  case ho => k_is
  case hcd => k_is
  case hkp => k_is
  case hco => rfl
  case hgen => rfl
  case hk => rfl
  case hbind => exact fun s => bind1 fun a => rfl
  case hkind => decide +kernel
  case hnn => decide
  case hnd => decide +kernel
  case hb =>
    intro h₀ prog G L'
    repeat' (first | with_reducible exact ev_int _ _ _ | with_reducible exact ev_str _ _ _ | with_reducible exact ev_none _ _ | with_reducible exact ev_bool _ _ _ | (with_reducible refine' ev_name _ _ ?_ ?_) | (with_reducible refine' ev_binop ?_ ?_) | (with_reducible refine' ev_neg ?_) | (with_reducible refine' ev_cmp ?_ ?_ ?_) | (with_reducible refine' ev_ifexp ?_ ?_ ?_) | (with_reducible refine' ev_list ?_) | (with_reducible refine' ev_tuple ?_) | with_reducible exact es_nil | (with_reducible refine' es_cons ?_ ?_ ?_) | (with_reducible refine' ev_cut ?_ ?_ ?_) | (with_reducible refine' ev_idx ?_ ?_ ?_) | with_reducible exact pt_none | (with_reducible refine' pt_some ?_) | (with_reducible refine' bt_cmp ?_ ?_ ?_) | (with_reducible refine' bt_not ?_) | (with_reducible refine' bt_bool ?_) | with_reducible exact at_and_nil | with_reducible exact at_or_nil | (with_reducible refine' at_and_cons ?_ ?_) | (with_reducible refine' at_or_cons ?_ ?_) | with_reducible exact xs_nil | (with_reducible refine' xs_cons ?_ ?_) | (with_reducible refine' st_assign ?_ ?_ ?_) | (with_reducible refine' st_aug ?_ ?_ ?_) | (with_reducible refine' st_if ?_ ?_ ?_) | (with_reducible refine' st_append ?_ ?_ ?_ ?_ ?_ ?_) | (with_reducible refine' st_augidx ?_ ?_ ?_ ?_) | (with_reducible refine' st_ret ?_) | with_reducible exact st_ret0 | with_reducible exact st_cont | with_reducible exact st_pass | (with_reducible refine' st_while ?_ ?_) | (with_reducible refine' st_for ?_ (as_name ?_) ?_ ?_ ?_) | (with_reducible refine' ev_len (by assumption) ?_ ?_ ?_ ?_ ?_ ?_ ?_ ?_) | (with_reducible refine' ev_chr (by assumption) ?_ ?_ ?_ ?_ ?_ ?_ ?_ ?_) | (with_reducible refine' ev_range (by assumption) ?_ ?_ ?_ ?_ ?_ ?_ ?_ ?_) | (with_reducible refine' ev_abs (by assumption) ?_ ?_ ?_ ?_ ?_ ?_ ?_ ?_) | (with_reducible refine' ev_count _ ?_ ?_ ?_ ?_ ?_) | (with_reducible refine' ev_split _ ?_ ?_ ?_ ?_ ?_) | (with_reducible refine' ev_index _ ?_ ?_ ?_ ?_) | (with_reducible refine' ev_attr (C := 113) (by assumption) ?_ ?_ ?_ ?_ ?_ ?_) | with_reducible exact ts_nil | (with_reducible refine' ts_one ?_) | ((with_reducible show nsIn _ _ _ = _); k_is) | ((with_reducible show plainGet _ _ _ = _); k_is) | ((with_reducible show hasDictIn _ _ = _); k_is) | ((with_reducible show findIn _ _ _ = _); k_is) | ((with_reducible show noGet _ _ = _); k_is) | ((with_reducible show Stores _ _); first | exact Or.inl rfl | exact Or.inr ⟨rfl, rfl⟩) | ((with_reducible show (_ == _) = false); decide) | ((with_reducible show behindInMarks _ _ = _); with_unfolding_all rfl) | ((with_reducible show _ ≤ _); decide) | ((with_reducible show _ = _); rfl) | ((with_reducible show ∀ _, _ = _); intro _; rfl) | ((with_reducible show ∀ _ _, _ = _); intro _ _; rfl) | ((with_reducible show ∀ _ _ _, _ = _); intro _ _ _; rfl) | (with_reducible refine' bt_val ?_ ?_))
  intro A H Q hA hl hq
  unfold callW
  simp only [ofS0, ofS1, ofSe, argLoc_cons, reduceIte, getW_some]
  refine ⟨_, rfl, count_W ⟨_, rfl, count_W (cmp_eqI ?_)⟩⟩
  have hb := flat_bal [] A hA
  rw [one_nil] at hb
  cases e : mkF [] A with
  | nil =>
    rw [e] at hb hq
    rw [one_nil] at hb
    rw [if_pos (by rw [beq_iff_eq]; omega)]
    exact .inl hq
  | cons k r =>
    rw [e] at hb hq
    rw [one_cons] at hb
    rw [if_neg (by rw [beq_iff_eq]; omega)]
    rcases flat_open A [] k r hA e with ⟨h, _⟩ | ⟨P, B, hf, h0, hr⟩
    · cases h
    · obtain ⟨Ps, hP, hs⟩ := spl_last 0 (k :: B) h0 P
      subst hr
      refine ⟨_, rfl, split_W (by omega) (listW_lst ⟨_, rfl, ?_⟩)⟩
      rw [hf, hs]
      refine idx_Llast (p := .str (mkS (k :: B))) (by simp) ⟨_, rfl, ?_⟩
      have hl' : (k :: B).length ≤ 1000 := by rw [hf] at hl; simp at hl ⊢; omega
      refine cut_S (by rw [mkS_len, sizeLine_eq]; omega) ?_
      rw [scut_mk]
      rw [show cut (k :: B) none (some (1 : Int)) = [k] from cut_hi (k :: B) 1]
      refine bin_addS (by rw [mkS_len, mkS_len, sizeLine_eq]; simp) (.inl ?_)
      rw [mkS_append]; exact hq
end Mine
namespace Mine
def RsP (σ : St) (Q : Fl → St → Prop) : Prop :=
  ∃ (T : List Tk) (wr M : Nat), (∀ n, PW [] (atk wr M T n)) ∧ (∀ n, (flat T).take (flat (atk wr M T n)).length = flat (atk wr M T n)) ∧ (flat T).length ≤ 250 ∧ M ≤ 250 ∧ σ.loc "text" = some (.str (mkS (flat T))) ∧ σ.loc "cuts" = some (.lst ((List.range (M + 2)).map fun n => PV.int ((flat (atk wr M T n)).length : Nat))) ∧
    ∀ a loc' H', H' a = some ⟨true, ((List.range (M + 1)).map (pcn wr M T)).map fun p => .str (mkS p)⟩ → Q (.ret (.ref a)) ⟨loc', H'⟩
theorem pieces_fn (w : World) : ∃ Fb, Fn (hd09.heap_39 w.params) w 136 ["text", "wrap"] 8 Fb ∧ ∀ (T : List Tk) (wr : Nat) (H : LH) (Q : PV → LH → Prop), PW [] T → mkF [] T = [] → (flat T).length ≤ 250 → 1 ≤ wr → wr ≤ 9 →
    Q (.lst ((pcs wr (vis T) [] T).map fun p => .str (mkS p))) H → callW ["text", "wrap"] Fb [.str (mkS (flat T)), .int (wr : Int)] H Q := by
  obtain ⟨Fr, hFr, hrun⟩ := running_fn w
  refine' ⟨_, Fn.intro ?ho ?hcd ?hkp ?hco ?hgen ?hk ?hbind ?hkind ?hnn ?hnd ?hb, ?_⟩
  case ho => k_is
  case hcd => k_is
  case hkp => k_is
  case hco => rfl
  case hgen => rfl
  case hk => rfl
  case hbind => exact fun s => bind2 fun a b => rfl
  case hkind => decide +kernel
  case hnn => decide
  case hnd => decide +kernel
  case hb =>
    intro h₀ prog G L'
    with_reducible refine' xs_cons ?_ ?_
    · with_reducible refine' st_assign ?ea ?hka ?hma
      case hka => first | exact Or.inl rfl | exact Or.inr ⟨rfl, rfl⟩
      case hma => rfl
      refine' ev_comp (caps := ["text"]) ?hiA ?hclosA ?cpA ?hcellA ?hnamesA ?haA ?htA ?heA ?htgA ?hsA
      case hclosA => rfl
      case cpA => exact ⟨fun p hp => by (simp only [List.mem_singleton] at hp; subst hp; first | exact List.mem_cons_self | exact List.mem_cons_of_mem _ List.mem_cons_self | exact List.mem_cons_of_mem _ (List.mem_cons_of_mem _ List.mem_cons_self) | exact List.mem_cons_of_mem _ (List.mem_cons_of_mem _ (List.mem_cons_of_mem _ List.mem_cons_self))), by first | decide | simp, rfl, fun C y hy => by (simp only [List.mem_singleton] at hy; subst hy; exact ⟨by first | exact Or.inl rfl | exact Or.inr rfl, rfl, by intro h; cases h⟩)⟩
      case hcellA => decide
      case hnamesA => decide
      case htgA => intro _ _; rfl
      case hsA => intro _; rfl
      case haA => exact fun C => ac_name rfl
      case hiA => repeat' (first | with_reducible exact ev_int _ _ _ | with_reducible exact ev_str _ _ _ | with_reducible exact ev_none _ _ | with_reducible exact ev_bool _ _ _ | (with_reducible refine' ev_name _ _ ?_ ?_) | (with_reducible refine' ev_binop ?_ ?_) | (with_reducible refine' ev_neg ?_) | (with_reducible refine' ev_cmp ?_ ?_ ?_) | (with_reducible refine' ev_ifexp ?_ ?_ ?_) | (with_reducible refine' ev_list ?_) | (with_reducible refine' ev_tuple ?_) | with_reducible exact es_nil | (with_reducible refine' es_cons ?_ ?_ ?_) | (with_reducible refine' ev_cut ?_ ?_ ?_) | (with_reducible refine' ev_idx ?_ ?_ ?_) | with_reducible exact pt_none | (with_reducible refine' pt_some ?_) | (with_reducible refine' bt_cmp ?_ ?_ ?_) | (with_reducible refine' bt_not ?_) | (with_reducible refine' bt_bool ?_) | with_reducible exact at_and_nil | with_reducible exact at_or_nil | (with_reducible refine' at_and_cons ?_ ?_) | (with_reducible refine' at_or_cons ?_ ?_) | with_reducible exact xs_nil | (with_reducible refine' xs_cons ?_ ?_) | (with_reducible refine' st_assign ?_ ?_ ?_) | (with_reducible refine' st_aug ?_ ?_ ?_) | (with_reducible refine' st_if ?_ ?_ ?_) | (with_reducible refine' st_append ?_ ?_ ?_ ?_ ?_ ?_) | (with_reducible refine' st_augidx ?_ ?_ ?_ ?_) | (with_reducible refine' st_ret ?_) | with_reducible exact st_ret0 | with_reducible exact st_cont | with_reducible exact st_pass | (with_reducible refine' st_while ?_ ?_) | (with_reducible refine' st_for ?_ (as_name ?_) ?_ ?_ ?_) | (with_reducible refine' ev_len (by assumption) ?_ ?_ ?_ ?_ ?_ ?_ ?_ ?_) | (with_reducible refine' ev_chr (by assumption) ?_ ?_ ?_ ?_ ?_ ?_ ?_ ?_) | (with_reducible refine' ev_range (by assumption) ?_ ?_ ?_ ?_ ?_ ?_ ?_ ?_) | (with_reducible refine' ev_abs (by assumption) ?_ ?_ ?_ ?_ ?_ ?_ ?_ ?_) | (with_reducible refine' ev_count _ ?_ ?_ ?_ ?_ ?_) | (with_reducible refine' ev_split _ ?_ ?_ ?_ ?_ ?_) | (with_reducible refine' ev_index _ ?_ ?_ ?_ ?_) | (with_reducible refine' ev_attr (C := 113) (by assumption) ?_ ?_ ?_ ?_ ?_ ?_) | (with_reducible refine' ev_fn (x := Str.ofString "_law_running") (f := 131) (by assumption) (by assumption) ?_ ?_ ?_ ?_ ?_ ?_ ?_ ?_ ?_) | with_reducible exact ts_nil | (with_reducible refine' ts_one ?_) | ((with_reducible show nsIn _ _ _ = _); k_is) | ((with_reducible show plainGet _ _ _ = _); k_is) | ((with_reducible show hasDictIn _ _ = _); k_is) | ((with_reducible show findIn _ _ _ = _); k_is) | ((with_reducible show noGet _ _ = _); k_is) | ((with_reducible show Stores _ _); first | exact Or.inl rfl | exact Or.inr ⟨rfl, rfl⟩) | ((with_reducible show (_ == _) = false); decide) | ((with_reducible show behindInMarks _ _ = _); with_unfolding_all rfl) | ((with_reducible show _ ≤ _); decide) | ((with_reducible show _ = _); rfl) | ((with_reducible show ∀ _, _ = _); intro _; rfl) | ((with_reducible show ∀ _ _, _ = _); intro _ _; rfl) | ((with_reducible show ∀ _ _ _, _ = _); intro _ _ _; rfl) | (with_reducible refine' bt_val ?_ ?_))
      case htA => intro C; repeat' (first | with_reducible exact ev_int _ _ _ | with_reducible exact ev_str _ _ _ | with_reducible exact ev_none _ _ | with_reducible exact ev_bool _ _ _ | (with_reducible refine' ev_name _ _ ?_ ?_) | (with_reducible refine' ev_binop ?_ ?_) | (with_reducible refine' ev_neg ?_) | (with_reducible refine' ev_cmp ?_ ?_ ?_) | (with_reducible refine' ev_ifexp ?_ ?_ ?_) | (with_reducible refine' ev_list ?_) | (with_reducible refine' ev_tuple ?_) | with_reducible exact es_nil | (with_reducible refine' es_cons ?_ ?_ ?_) | (with_reducible refine' ev_cut ?_ ?_ ?_) | (with_reducible refine' ev_idx ?_ ?_ ?_) | with_reducible exact pt_none | (with_reducible refine' pt_some ?_) | (with_reducible refine' bt_cmp ?_ ?_ ?_) | (with_reducible refine' bt_not ?_) | (with_reducible refine' bt_bool ?_) | with_reducible exact at_and_nil | with_reducible exact at_or_nil | (with_reducible refine' at_and_cons ?_ ?_) | (with_reducible refine' at_or_cons ?_ ?_) | with_reducible exact xs_nil | (with_reducible refine' xs_cons ?_ ?_) | (with_reducible refine' st_assign ?_ ?_ ?_) | (with_reducible refine' st_aug ?_ ?_ ?_) | (with_reducible refine' st_if ?_ ?_ ?_) | (with_reducible refine' st_append ?_ ?_ ?_ ?_ ?_ ?_) | (with_reducible refine' st_augidx ?_ ?_ ?_ ?_) | (with_reducible refine' st_ret ?_) | with_reducible exact st_ret0 | with_reducible exact st_cont | with_reducible exact st_pass | (with_reducible refine' st_while ?_ ?_) | (with_reducible refine' st_for ?_ (as_name ?_) ?_ ?_ ?_) | (with_reducible refine' ev_len (by assumption) ?_ ?_ ?_ ?_ ?_ ?_ ?_ ?_) | (with_reducible refine' ev_chr (by assumption) ?_ ?_ ?_ ?_ ?_ ?_ ?_ ?_) | (with_reducible refine' ev_range (by assumption) ?_ ?_ ?_ ?_ ?_ ?_ ?_ ?_) | (with_reducible refine' ev_abs (by assumption) ?_ ?_ ?_ ?_ ?_ ?_ ?_ ?_) | (with_reducible refine' ev_count _ ?_ ?_ ?_ ?_ ?_) | (with_reducible refine' ev_split _ ?_ ?_ ?_ ?_ ?_) | (with_reducible refine' ev_index _ ?_ ?_ ?_ ?_) | (with_reducible refine' ev_attr (C := 113) (by assumption) ?_ ?_ ?_ ?_ ?_ ?_) | (with_reducible refine' ev_fn (x := Str.ofString "_law_running") (f := 131) (by assumption) (by assumption) ?_ ?_ ?_ ?_ ?_ ?_ ?_ ?_ ?_) | with_reducible exact ts_nil | (with_reducible refine' ts_one ?_) | ((with_reducible show nsIn _ _ _ = _); k_is) | ((with_reducible show plainGet _ _ _ = _); k_is) | ((with_reducible show hasDictIn _ _ = _); k_is) | ((with_reducible show findIn _ _ _ = _); k_is) | ((with_reducible show noGet _ _ = _); k_is) | ((with_reducible show Stores _ _); first | exact Or.inl rfl | exact Or.inr ⟨rfl, rfl⟩) | ((with_reducible show (_ == _) = false); decide) | ((with_reducible show behindInMarks _ _ = _); with_unfolding_all rfl) | ((with_reducible show _ ≤ _); decide) | ((with_reducible show _ = _); rfl) | ((with_reducible show ∀ _, _ = _); intro _; rfl) | ((with_reducible show ∀ _ _, _ = _); intro _ _; rfl) | ((with_reducible show ∀ _ _ _, _ = _); intro _ _ _; rfl) | (with_reducible refine' bt_val ?_ ?_))
      case heA => intro C; repeat' (first | with_reducible exact ev_int _ _ _ | with_reducible exact ev_str _ _ _ | with_reducible exact ev_none _ _ | with_reducible exact ev_bool _ _ _ | (with_reducible refine' ev_name _ _ ?_ ?_) | (with_reducible refine' ev_binop ?_ ?_) | (with_reducible refine' ev_neg ?_) | (with_reducible refine' ev_cmp ?_ ?_ ?_) | (with_reducible refine' ev_ifexp ?_ ?_ ?_) | (with_reducible refine' ev_list ?_) | (with_reducible refine' ev_tuple ?_) | with_reducible exact es_nil | (with_reducible refine' es_cons ?_ ?_ ?_) | (with_reducible refine' ev_cut ?_ ?_ ?_) | (with_reducible refine' ev_idx ?_ ?_ ?_) | with_reducible exact pt_none | (with_reducible refine' pt_some ?_) | (with_reducible refine' bt_cmp ?_ ?_ ?_) | (with_reducible refine' bt_not ?_) | (with_reducible refine' bt_bool ?_) | with_reducible exact at_and_nil | with_reducible exact at_or_nil | (with_reducible refine' at_and_cons ?_ ?_) | (with_reducible refine' at_or_cons ?_ ?_) | with_reducible exact xs_nil | (with_reducible refine' xs_cons ?_ ?_) | (with_reducible refine' st_assign ?_ ?_ ?_) | (with_reducible refine' st_aug ?_ ?_ ?_) | (with_reducible refine' st_if ?_ ?_ ?_) | (with_reducible refine' st_append ?_ ?_ ?_ ?_ ?_ ?_) | (with_reducible refine' st_augidx ?_ ?_ ?_ ?_) | (with_reducible refine' st_ret ?_) | with_reducible exact st_ret0 | with_reducible exact st_cont | with_reducible exact st_pass | (with_reducible refine' st_while ?_ ?_) | (with_reducible refine' st_for ?_ (as_name ?_) ?_ ?_ ?_) | (with_reducible refine' ev_len (by assumption) ?_ ?_ ?_ ?_ ?_ ?_ ?_ ?_) | (with_reducible refine' ev_chr (by assumption) ?_ ?_ ?_ ?_ ?_ ?_ ?_ ?_) | (with_reducible refine' ev_range (by assumption) ?_ ?_ ?_ ?_ ?_ ?_ ?_ ?_) | (with_reducible refine' ev_abs (by assumption) ?_ ?_ ?_ ?_ ?_ ?_ ?_ ?_) | (with_reducible refine' ev_count _ ?_ ?_ ?_ ?_ ?_) | (with_reducible refine' ev_split _ ?_ ?_ ?_ ?_ ?_) | (with_reducible refine' ev_index _ ?_ ?_ ?_ ?_) | (with_reducible refine' ev_attr (C := 113) (by assumption) ?_ ?_ ?_ ?_ ?_ ?_) | (with_reducible refine' ev_fn (x := Str.ofString "_law_running") (f := 131) (by assumption) (by assumption) ?_ ?_ ?_ ?_ ?_ ?_ ?_ ?_ ?_) | with_reducible exact ts_nil | (with_reducible refine' ts_one ?_) | ((with_reducible show nsIn _ _ _ = _); k_is) | ((with_reducible show plainGet _ _ _ = _); k_is) | ((with_reducible show hasDictIn _ _ = _); k_is) | ((with_reducible show findIn _ _ _ = _); k_is) | ((with_reducible show noGet _ _ = _); k_is) | ((with_reducible show Stores _ _); first | exact Or.inl rfl | exact Or.inr ⟨rfl, rfl⟩) | ((with_reducible show (_ == _) = false); decide) | ((with_reducible show behindInMarks _ _ = _); with_unfolding_all rfl) | ((with_reducible show _ ≤ _); decide) | ((with_reducible show _ = _); rfl) | ((with_reducible show ∀ _, _ = _); intro _; rfl) | ((with_reducible show ∀ _ _, _ = _); intro _ _; rfl) | ((with_reducible show ∀ _ _ _, _ = _); intro _ _ _; rfl) | (with_reducible refine' bt_val ?_ ?_))
    · with_reducible refine' xs_cons ?_ ?_
      · with_reducible refine' st_assign ?eb ?hkb ?hmb
        case hkb => first | exact Or.inl rfl | exact Or.inr ⟨rfl, rfl⟩
        case hmb => rfl
        with_reducible refine' ev_binop ?_ ?_
        · with_reducible refine' ev_binop ?_ ?_
          · repeat' (first | with_reducible exact ev_int _ _ _ | with_reducible exact ev_str _ _ _ | with_reducible exact ev_none _ _ | with_reducible exact ev_bool _ _ _ | (with_reducible refine' ev_name _ _ ?_ ?_) | (with_reducible refine' ev_binop ?_ ?_) | (with_reducible refine' ev_neg ?_) | (with_reducible refine' ev_cmp ?_ ?_ ?_) | (with_reducible refine' ev_ifexp ?_ ?_ ?_) | (with_reducible refine' ev_list ?_) | (with_reducible refine' ev_tuple ?_) | with_reducible exact es_nil | (with_reducible refine' es_cons ?_ ?_ ?_) | (with_reducible refine' ev_cut ?_ ?_ ?_) | (with_reducible refine' ev_idx ?_ ?_ ?_) | with_reducible exact pt_none | (with_reducible refine' pt_some ?_) | (with_reducible refine' bt_cmp ?_ ?_ ?_) | (with_reducible refine' bt_not ?_) | (with_reducible refine' bt_bool ?_) | with_reducible exact at_and_nil | with_reducible exact at_or_nil | (with_reducible refine' at_and_cons ?_ ?_) | (with_reducible refine' at_or_cons ?_ ?_) | with_reducible exact xs_nil | (with_reducible refine' xs_cons ?_ ?_) | (with_reducible refine' st_assign ?_ ?_ ?_) | (with_reducible refine' st_aug ?_ ?_ ?_) | (with_reducible refine' st_if ?_ ?_ ?_) | (with_reducible refine' st_append ?_ ?_ ?_ ?_ ?_ ?_) | (with_reducible refine' st_augidx ?_ ?_ ?_ ?_) | (with_reducible refine' st_ret ?_) | with_reducible exact st_ret0 | with_reducible exact st_cont | with_reducible exact st_pass | (with_reducible refine' st_while ?_ ?_) | (with_reducible refine' st_for ?_ (as_name ?_) ?_ ?_ ?_) | (with_reducible refine' ev_len (by assumption) ?_ ?_ ?_ ?_ ?_ ?_ ?_ ?_) | (with_reducible refine' ev_chr (by assumption) ?_ ?_ ?_ ?_ ?_ ?_ ?_ ?_) | (with_reducible refine' ev_range (by assumption) ?_ ?_ ?_ ?_ ?_ ?_ ?_ ?_) | (with_reducible refine' ev_abs (by assumption) ?_ ?_ ?_ ?_ ?_ ?_ ?_ ?_) | (with_reducible refine' ev_count _ ?_ ?_ ?_ ?_ ?_) | (with_reducible refine' ev_split _ ?_ ?_ ?_ ?_ ?_) | (with_reducible refine' ev_index _ ?_ ?_ ?_ ?_) | (with_reducible refine' ev_attr (C := 113) (by assumption) ?_ ?_ ?_ ?_ ?_ ?_) | (with_reducible refine' ev_fn (x := Str.ofString "_law_running") (f := 131) (by assumption) (by assumption) ?_ ?_ ?_ ?_ ?_ ?_ ?_ ?_ ?_) | with_reducible exact ts_nil | (with_reducible refine' ts_one ?_) | ((with_reducible show nsIn _ _ _ = _); k_is) | ((with_reducible show plainGet _ _ _ = _); k_is) | ((with_reducible show hasDictIn _ _ = _); k_is) | ((with_reducible show findIn _ _ _ = _); k_is) | ((with_reducible show noGet _ _ = _); k_is) | ((with_reducible show Stores _ _); first | exact Or.inl rfl | exact Or.inr ⟨rfl, rfl⟩) | ((with_reducible show (_ == _) = false); decide) | ((with_reducible show behindInMarks _ _ = _); with_unfolding_all rfl) | ((with_reducible show _ ≤ _); decide) | ((with_reducible show _ = _); rfl) | ((with_reducible show ∀ _, _ = _); intro _; rfl) | ((with_reducible show ∀ _ _, _ = _); intro _ _; rfl) | ((with_reducible show ∀ _ _ _, _ = _); intro _ _ _; rfl) | (with_reducible refine' bt_val ?_ ?_))
          · refine' ev_comp (caps := ["seen"]) ?hiB ?hclosB ?cpB ?hcellB ?hnamesB ?haB ?htB ?heB ?htgB ?hsB
            case hclosB => rfl
            case cpB => exact ⟨fun p hp => by (simp only [List.mem_singleton] at hp; subst hp; first | exact List.mem_cons_self | exact List.mem_cons_of_mem _ List.mem_cons_self | exact List.mem_cons_of_mem _ (List.mem_cons_of_mem _ List.mem_cons_self) | exact List.mem_cons_of_mem _ (List.mem_cons_of_mem _ (List.mem_cons_of_mem _ List.mem_cons_self))), by first | decide | simp, rfl, fun C y hy => by (simp only [List.mem_singleton] at hy; subst hy; exact ⟨by first | exact Or.inl rfl | exact Or.inr rfl, rfl, by intro h; cases h⟩)⟩
            case hcellB => decide
            case hnamesB => decide
            case htgB => intro _ _; rfl
            case hsB => intro _; rfl
            case haB => exact fun C => ac_name rfl
            case hiB => repeat' (first | with_reducible exact ev_int _ _ _ | with_reducible exact ev_str _ _ _ | with_reducible exact ev_none _ _ | with_reducible exact ev_bool _ _ _ | (with_reducible refine' ev_name _ _ ?_ ?_) | (with_reducible refine' ev_binop ?_ ?_) | (with_reducible refine' ev_neg ?_) | (with_reducible refine' ev_cmp ?_ ?_ ?_) | (with_reducible refine' ev_ifexp ?_ ?_ ?_) | (with_reducible refine' ev_list ?_) | (with_reducible refine' ev_tuple ?_) | with_reducible exact es_nil | (with_reducible refine' es_cons ?_ ?_ ?_) | (with_reducible refine' ev_cut ?_ ?_ ?_) | (with_reducible refine' ev_idx ?_ ?_ ?_) | with_reducible exact pt_none | (with_reducible refine' pt_some ?_) | (with_reducible refine' bt_cmp ?_ ?_ ?_) | (with_reducible refine' bt_not ?_) | (with_reducible refine' bt_bool ?_) | with_reducible exact at_and_nil | with_reducible exact at_or_nil | (with_reducible refine' at_and_cons ?_ ?_) | (with_reducible refine' at_or_cons ?_ ?_) | with_reducible exact xs_nil | (with_reducible refine' xs_cons ?_ ?_) | (with_reducible refine' st_assign ?_ ?_ ?_) | (with_reducible refine' st_aug ?_ ?_ ?_) | (with_reducible refine' st_if ?_ ?_ ?_) | (with_reducible refine' st_append ?_ ?_ ?_ ?_ ?_ ?_) | (with_reducible refine' st_augidx ?_ ?_ ?_ ?_) | (with_reducible refine' st_ret ?_) | with_reducible exact st_ret0 | with_reducible exact st_cont | with_reducible exact st_pass | (with_reducible refine' st_while ?_ ?_) | (with_reducible refine' st_for ?_ (as_name ?_) ?_ ?_ ?_) | (with_reducible refine' ev_len (by assumption) ?_ ?_ ?_ ?_ ?_ ?_ ?_ ?_) | (with_reducible refine' ev_chr (by assumption) ?_ ?_ ?_ ?_ ?_ ?_ ?_ ?_) | (with_reducible refine' ev_range (by assumption) ?_ ?_ ?_ ?_ ?_ ?_ ?_ ?_) | (with_reducible refine' ev_abs (by assumption) ?_ ?_ ?_ ?_ ?_ ?_ ?_ ?_) | (with_reducible refine' ev_count _ ?_ ?_ ?_ ?_ ?_) | (with_reducible refine' ev_split _ ?_ ?_ ?_ ?_ ?_) | (with_reducible refine' ev_index _ ?_ ?_ ?_ ?_) | (with_reducible refine' ev_attr (C := 113) (by assumption) ?_ ?_ ?_ ?_ ?_ ?_) | (with_reducible refine' ev_fn (x := Str.ofString "_law_running") (f := 131) (by assumption) (by assumption) ?_ ?_ ?_ ?_ ?_ ?_ ?_ ?_ ?_) | with_reducible exact ts_nil | (with_reducible refine' ts_one ?_) | ((with_reducible show nsIn _ _ _ = _); k_is) | ((with_reducible show plainGet _ _ _ = _); k_is) | ((with_reducible show hasDictIn _ _ = _); k_is) | ((with_reducible show findIn _ _ _ = _); k_is) | ((with_reducible show noGet _ _ = _); k_is) | ((with_reducible show Stores _ _); first | exact Or.inl rfl | exact Or.inr ⟨rfl, rfl⟩) | ((with_reducible show (_ == _) = false); decide) | ((with_reducible show behindInMarks _ _ = _); with_unfolding_all rfl) | ((with_reducible show _ ≤ _); decide) | ((with_reducible show _ = _); rfl) | ((with_reducible show ∀ _, _ = _); intro _; rfl) | ((with_reducible show ∀ _ _, _ = _); intro _ _; rfl) | ((with_reducible show ∀ _ _ _, _ = _); intro _ _ _; rfl) | (with_reducible refine' bt_val ?_ ?_))
            case htB => intro C; repeat' (first | with_reducible exact ev_int _ _ _ | with_reducible exact ev_str _ _ _ | with_reducible exact ev_none _ _ | with_reducible exact ev_bool _ _ _ | (with_reducible refine' ev_name _ _ ?_ ?_) | (with_reducible refine' ev_binop ?_ ?_) | (with_reducible refine' ev_neg ?_) | (with_reducible refine' ev_cmp ?_ ?_ ?_) | (with_reducible refine' ev_ifexp ?_ ?_ ?_) | (with_reducible refine' ev_list ?_) | (with_reducible refine' ev_tuple ?_) | with_reducible exact es_nil | (with_reducible refine' es_cons ?_ ?_ ?_) | (with_reducible refine' ev_cut ?_ ?_ ?_) | (with_reducible refine' ev_idx ?_ ?_ ?_) | with_reducible exact pt_none | (with_reducible refine' pt_some ?_) | (with_reducible refine' bt_cmp ?_ ?_ ?_) | (with_reducible refine' bt_not ?_) | (with_reducible refine' bt_bool ?_) | with_reducible exact at_and_nil | with_reducible exact at_or_nil | (with_reducible refine' at_and_cons ?_ ?_) | (with_reducible refine' at_or_cons ?_ ?_) | with_reducible exact xs_nil | (with_reducible refine' xs_cons ?_ ?_) | (with_reducible refine' st_assign ?_ ?_ ?_) | (with_reducible refine' st_aug ?_ ?_ ?_) | (with_reducible refine' st_if ?_ ?_ ?_) | (with_reducible refine' st_append ?_ ?_ ?_ ?_ ?_ ?_) | (with_reducible refine' st_augidx ?_ ?_ ?_ ?_) | (with_reducible refine' st_ret ?_) | with_reducible exact st_ret0 | with_reducible exact st_cont | with_reducible exact st_pass | (with_reducible refine' st_while ?_ ?_) | (with_reducible refine' st_for ?_ (as_name ?_) ?_ ?_ ?_) | (with_reducible refine' ev_len (by assumption) ?_ ?_ ?_ ?_ ?_ ?_ ?_ ?_) | (with_reducible refine' ev_chr (by assumption) ?_ ?_ ?_ ?_ ?_ ?_ ?_ ?_) | (with_reducible refine' ev_range (by assumption) ?_ ?_ ?_ ?_ ?_ ?_ ?_ ?_) | (with_reducible refine' ev_abs (by assumption) ?_ ?_ ?_ ?_ ?_ ?_ ?_ ?_) | (with_reducible refine' ev_count _ ?_ ?_ ?_ ?_ ?_) | (with_reducible refine' ev_split _ ?_ ?_ ?_ ?_ ?_) | (with_reducible refine' ev_index _ ?_ ?_ ?_ ?_) | (with_reducible refine' ev_attr (C := 113) (by assumption) ?_ ?_ ?_ ?_ ?_ ?_) | (with_reducible refine' ev_fn (x := Str.ofString "_law_running") (f := 131) (by assumption) (by assumption) ?_ ?_ ?_ ?_ ?_ ?_ ?_ ?_ ?_) | with_reducible exact ts_nil | (with_reducible refine' ts_one ?_) | ((with_reducible show nsIn _ _ _ = _); k_is) | ((with_reducible show plainGet _ _ _ = _); k_is) | ((with_reducible show hasDictIn _ _ = _); k_is) | ((with_reducible show findIn _ _ _ = _); k_is) | ((with_reducible show noGet _ _ = _); k_is) | ((with_reducible show Stores _ _); first | exact Or.inl rfl | exact Or.inr ⟨rfl, rfl⟩) | ((with_reducible show (_ == _) = false); decide) | ((with_reducible show behindInMarks _ _ = _); with_unfolding_all rfl) | ((with_reducible show _ ≤ _); decide) | ((with_reducible show _ = _); rfl) | ((with_reducible show ∀ _, _ = _); intro _; rfl) | ((with_reducible show ∀ _ _, _ = _); intro _ _; rfl) | ((with_reducible show ∀ _ _ _, _ = _); intro _ _ _; rfl) | (with_reducible refine' bt_val ?_ ?_))
            case heB => intro C; repeat' (first | with_reducible exact ev_int _ _ _ | with_reducible exact ev_str _ _ _ | with_reducible exact ev_none _ _ | with_reducible exact ev_bool _ _ _ | (with_reducible refine' ev_name _ _ ?_ ?_) | (with_reducible refine' ev_binop ?_ ?_) | (with_reducible refine' ev_neg ?_) | (with_reducible refine' ev_cmp ?_ ?_ ?_) | (with_reducible refine' ev_ifexp ?_ ?_ ?_) | (with_reducible refine' ev_list ?_) | (with_reducible refine' ev_tuple ?_) | with_reducible exact es_nil | (with_reducible refine' es_cons ?_ ?_ ?_) | (with_reducible refine' ev_cut ?_ ?_ ?_) | (with_reducible refine' ev_idx ?_ ?_ ?_) | with_reducible exact pt_none | (with_reducible refine' pt_some ?_) | (with_reducible refine' bt_cmp ?_ ?_ ?_) | (with_reducible refine' bt_not ?_) | (with_reducible refine' bt_bool ?_) | with_reducible exact at_and_nil | with_reducible exact at_or_nil | (with_reducible refine' at_and_cons ?_ ?_) | (with_reducible refine' at_or_cons ?_ ?_) | with_reducible exact xs_nil | (with_reducible refine' xs_cons ?_ ?_) | (with_reducible refine' st_assign ?_ ?_ ?_) | (with_reducible refine' st_aug ?_ ?_ ?_) | (with_reducible refine' st_if ?_ ?_ ?_) | (with_reducible refine' st_append ?_ ?_ ?_ ?_ ?_ ?_) | (with_reducible refine' st_augidx ?_ ?_ ?_ ?_) | (with_reducible refine' st_ret ?_) | with_reducible exact st_ret0 | with_reducible exact st_cont | with_reducible exact st_pass | (with_reducible refine' st_while ?_ ?_) | (with_reducible refine' st_for ?_ (as_name ?_) ?_ ?_ ?_) | (with_reducible refine' ev_len (by assumption) ?_ ?_ ?_ ?_ ?_ ?_ ?_ ?_) | (with_reducible refine' ev_chr (by assumption) ?_ ?_ ?_ ?_ ?_ ?_ ?_ ?_) | (with_reducible refine' ev_range (by assumption) ?_ ?_ ?_ ?_ ?_ ?_ ?_ ?_) | (with_reducible refine' ev_abs (by assumption) ?_ ?_ ?_ ?_ ?_ ?_ ?_ ?_) | (with_reducible refine' ev_count _ ?_ ?_ ?_ ?_ ?_) | (with_reducible refine' ev_split _ ?_ ?_ ?_ ?_ ?_) | (with_reducible refine' ev_index _ ?_ ?_ ?_ ?_) | (with_reducible refine' ev_attr (C := 113) (by assumption) ?_ ?_ ?_ ?_ ?_ ?_) | (with_reducible refine' ev_fn (x := Str.ofString "_law_running") (f := 131) (by assumption) (by assumption) ?_ ?_ ?_ ?_ ?_ ?_ ?_ ?_ ?_) | with_reducible exact ts_nil | (with_reducible refine' ts_one ?_) | ((with_reducible show nsIn _ _ _ = _); k_is) | ((with_reducible show plainGet _ _ _ = _); k_is) | ((with_reducible show hasDictIn _ _ = _); k_is) | ((with_reducible show findIn _ _ _ = _); k_is) | ((with_reducible show noGet _ _ = _); k_is) | ((with_reducible show Stores _ _); first | exact Or.inl rfl | exact Or.inr ⟨rfl, rfl⟩) | ((with_reducible show (_ == _) = false); decide) | ((with_reducible show behindInMarks _ _ = _); with_unfolding_all rfl) | ((with_reducible show _ ≤ _); decide) | ((with_reducible show _ = _); rfl) | ((with_reducible show ∀ _, _ = _); intro _; rfl) | ((with_reducible show ∀ _ _, _ = _); intro _ _; rfl) | ((with_reducible show ∀ _ _ _, _ = _); intro _ _ _; rfl) | (with_reducible refine' bt_val ?_ ?_))
        · repeat' (first | with_reducible exact ev_int _ _ _ | with_reducible exact ev_str _ _ _ | with_reducible exact ev_none _ _ | with_reducible exact ev_bool _ _ _ | (with_reducible refine' ev_name _ _ ?_ ?_) | (with_reducible refine' ev_binop ?_ ?_) | (with_reducible refine' ev_neg ?_) | (with_reducible refine' ev_cmp ?_ ?_ ?_) | (with_reducible refine' ev_ifexp ?_ ?_ ?_) | (with_reducible refine' ev_list ?_) | (with_reducible refine' ev_tuple ?_) | with_reducible exact es_nil | (with_reducible refine' es_cons ?_ ?_ ?_) | (with_reducible refine' ev_cut ?_ ?_ ?_) | (with_reducible refine' ev_idx ?_ ?_ ?_) | with_reducible exact pt_none | (with_reducible refine' pt_some ?_) | (with_reducible refine' bt_cmp ?_ ?_ ?_) | (with_reducible refine' bt_not ?_) | (with_reducible refine' bt_bool ?_) | with_reducible exact at_and_nil | with_reducible exact at_or_nil | (with_reducible refine' at_and_cons ?_ ?_) | (with_reducible refine' at_or_cons ?_ ?_) | with_reducible exact xs_nil | (with_reducible refine' xs_cons ?_ ?_) | (with_reducible refine' st_assign ?_ ?_ ?_) | (with_reducible refine' st_aug ?_ ?_ ?_) | (with_reducible refine' st_if ?_ ?_ ?_) | (with_reducible refine' st_append ?_ ?_ ?_ ?_ ?_ ?_) | (with_reducible refine' st_augidx ?_ ?_ ?_ ?_) | (with_reducible refine' st_ret ?_) | with_reducible exact st_ret0 | with_reducible exact st_cont | with_reducible exact st_pass | (with_reducible refine' st_while ?_ ?_) | (with_reducible refine' st_for ?_ (as_name ?_) ?_ ?_ ?_) | (with_reducible refine' ev_len (by assumption) ?_ ?_ ?_ ?_ ?_ ?_ ?_ ?_) | (with_reducible refine' ev_chr (by assumption) ?_ ?_ ?_ ?_ ?_ ?_ ?_ ?_) | (with_reducible refine' ev_range (by assumption) ?_ ?_ ?_ ?_ ?_ ?_ ?_ ?_) | (with_reducible refine' ev_abs (by assumption) ?_ ?_ ?_ ?_ ?_ ?_ ?_ ?_) | (with_reducible refine' ev_count _ ?_ ?_ ?_ ?_ ?_) | (with_reducible refine' ev_split _ ?_ ?_ ?_ ?_ ?_) | (with_reducible refine' ev_index _ ?_ ?_ ?_ ?_) | (with_reducible refine' ev_attr (C := 113) (by assumption) ?_ ?_ ?_ ?_ ?_ ?_) | (with_reducible refine' ev_fn (x := Str.ofString "_law_running") (f := 131) (by assumption) (by assumption) ?_ ?_ ?_ ?_ ?_ ?_ ?_ ?_ ?_) | with_reducible exact ts_nil | (with_reducible refine' ts_one ?_) | ((with_reducible show nsIn _ _ _ = _); k_is) | ((with_reducible show plainGet _ _ _ = _); k_is) | ((with_reducible show hasDictIn _ _ = _); k_is) | ((with_reducible show findIn _ _ _ = _); k_is) | ((with_reducible show noGet _ _ = _); k_is) | ((with_reducible show Stores _ _); first | exact Or.inl rfl | exact Or.inr ⟨rfl, rfl⟩) | ((with_reducible show (_ == _) = false); decide) | ((with_reducible show behindInMarks _ _ = _); with_unfolding_all rfl) | ((with_reducible show _ ≤ _); decide) | ((with_reducible show _ = _); rfl) | ((with_reducible show ∀ _, _ = _); intro _; rfl) | ((with_reducible show ∀ _ _, _ = _); intro _ _; rfl) | ((with_reducible show ∀ _ _ _, _ = _); intro _ _ _; rfl) | (with_reducible refine' bt_val ?_ ?_))
      · refine' XsOk.mono (F' := RsP) ?rp ?rpm
        case rp => repeat' (first | with_reducible exact ev_int _ _ _ | with_reducible exact ev_str _ _ _ | with_reducible exact ev_none _ _ | with_reducible exact ev_bool _ _ _ | (with_reducible refine' ev_name _ _ ?_ ?_) | (with_reducible refine' ev_binop ?_ ?_) | (with_reducible refine' ev_neg ?_) | (with_reducible refine' ev_cmp ?_ ?_ ?_) | (with_reducible refine' ev_ifexp ?_ ?_ ?_) | (with_reducible refine' ev_list ?_) | (with_reducible refine' ev_tuple ?_) | with_reducible exact es_nil | (with_reducible refine' es_cons ?_ ?_ ?_) | (with_reducible refine' ev_cut ?_ ?_ ?_) | (with_reducible refine' ev_idx ?_ ?_ ?_) | with_reducible exact pt_none | (with_reducible refine' pt_some ?_) | (with_reducible refine' bt_cmp ?_ ?_ ?_) | (with_reducible refine' bt_not ?_) | (with_reducible refine' bt_bool ?_) | with_reducible exact at_and_nil | with_reducible exact at_or_nil | (with_reducible refine' at_and_cons ?_ ?_) | (with_reducible refine' at_or_cons ?_ ?_) | with_reducible exact xs_nil | (with_reducible refine' xs_cons ?_ ?_) | (with_reducible refine' st_assign ?_ ?_ ?_) | (with_reducible refine' st_aug ?_ ?_ ?_) | (with_reducible refine' st_if ?_ ?_ ?_) | (with_reducible refine' st_append ?_ ?_ ?_ ?_ ?_ ?_) | (with_reducible refine' st_augidx ?_ ?_ ?_ ?_) | (with_reducible refine' st_ret ?_) | with_reducible exact st_ret0 | with_reducible exact st_cont | with_reducible exact st_pass | (with_reducible refine' st_while ?_ ?_) | (with_reducible refine' st_for ?_ (as_name ?_) ?_ ?_ ?_) | (with_reducible refine' ev_len (by assumption) ?_ ?_ ?_ ?_ ?_ ?_ ?_ ?_) | (with_reducible refine' ev_chr (by assumption) ?_ ?_ ?_ ?_ ?_ ?_ ?_ ?_) | (with_reducible refine' ev_range (by assumption) ?_ ?_ ?_ ?_ ?_ ?_ ?_ ?_) | (with_reducible refine' ev_abs (by assumption) ?_ ?_ ?_ ?_ ?_ ?_ ?_ ?_) | (with_reducible refine' ev_count _ ?_ ?_ ?_ ?_ ?_) | (with_reducible refine' ev_split _ ?_ ?_ ?_ ?_ ?_) | (with_reducible refine' ev_index _ ?_ ?_ ?_ ?_) | (with_reducible refine' ev_attr (C := 113) (by assumption) ?_ ?_ ?_ ?_ ?_ ?_) | (with_reducible refine' ev_fn (x := Str.ofString "_law_running") (f := 131) (by assumption) (by assumption) ?_ ?_ ?_ ?_ ?_ ?_ ?_ ?_ ?_) | with_reducible exact ts_nil | (with_reducible refine' ts_one ?_) | ((with_reducible show nsIn _ _ _ = _); k_is) | ((with_reducible show plainGet _ _ _ = _); k_is) | ((with_reducible show hasDictIn _ _ = _); k_is) | ((with_reducible show findIn _ _ _ = _); k_is) | ((with_reducible show noGet _ _ = _); k_is) | ((with_reducible show Stores _ _); first | exact Or.inl rfl | exact Or.inr ⟨rfl, rfl⟩) | ((with_reducible show (_ == _) = false); decide) | ((with_reducible show behindInMarks _ _ = _); with_unfolding_all rfl) | ((with_reducible show _ ≤ _); decide) | ((with_reducible show _ = _); rfl) | ((with_reducible show ∀ _, _ = _); intro _; rfl) | ((with_reducible show ∀ _ _, _ = _); intro _ _; rfl) | ((with_reducible show ∀ _ _ _, _ = _); intro _ _ _; rfl) | (with_reducible refine' bt_val ?_ ?_))
        case rpm =>
          rintro ⟨loc, H0⟩ Q ⟨T, wr, M, hPW, htk, hl, hM, lt, lc, hQ⟩
          simp only at lt lc
          have hle : ∀ n, (flat (atk wr M T n)).length ≤ (flat T).length := fun n => by
            have := congrArg List.length (htk n)
            rw [List.length_take] at this; omega
          simp only [ofS1, ofSe, Loc.set_apply, String.reduceEq, reduceIte, getW_some, lt, lc]
          refine ⟨by decide, listW_ref fun a ha => ?_⟩
          refine len_L (by simp; omega) (bin_subI ?_)
          rw [List.length_map, List.length_range, show ((M + 2 : Nat) : Int) - 1 = ((M + 1 : Nat) : Int) from by omega]
          refine ⟨_, trivial, iterOf_rng (small_ok (by omega) (by omega) (by omega)), ?_⟩
          rw [rng01, List.map_map]
          refine forW_inv (fun rest σ => ∃ j, j ≤ M + 1 ∧ rest = (List.range' j (M + 1 - j)).map (fun i => .int (i : Nat)) ∧ σ.loc "text" = some (.str (mkS (flat T))) ∧ σ.loc "cuts" = some (.lst ((List.range (M + 2)).map fun n => PV.int ((flat (atk wr M T n)).length : Nat))) ∧ σ.loc "pieces" = some (.ref a) ∧
              σ.H a = some ⟨true, ((List.range j).map (pcn wr M T)).map fun p => .str (mkS p)⟩) ?_ ?_ _ _ ?_
          · rintro p r σ K ⟨j, hj, er, l1, l2, l3, l4⟩ kn kc
            by_cases hjM : j = M + 1
            · subst hjM; rw [Nat.sub_self] at er; cases er
            · rw [show M + 1 - j = (M + 1 - (j + 1)) + 1 from by omega, List.range'_succ, List.map_cons] at er
              cases er
              have b0 := hle j
              have b1 := hle (j + 1)
              have g0 : ((List.range (M + 2)).map fun n => PV.int ((flat (atk wr M T n)).length : Nat))[j]? = some (.int ((flat (atk wr M T j)).length : Nat)) := by rw [List.getElem?_map, List.getElem?_range (by omega)]; rfl
              have g1 : ((List.range (M + 2)).map fun n => PV.int ((flat (atk wr M T n)).length : Nat))[j + 1]? = some (.int ((flat (atk wr M T (j + 1))).length : Nat)) := by rw [List.getElem?_map, List.getElem?_range (by omega)]; rfl
              simp only [Loc.set_apply, String.reduceEq, reduceIte, getW_some, l1, l2, l3]
              have ej : (j : Int) + 1 = ((j + 1 : Nat) : Int) := by omega
              refine idx_L g0 (by simp; omega) ⟨_, rfl, ?_⟩
              refine cut_S (by rw [mkS_len, sizeLine_eq]; omega) ⟨rfl, ?_⟩
              rw [scut_mk, cut_hi, htk]
              refine hrun (atk wr M T j) _ _ (hPW j) (by omega) ?_
              refine idx_L g0 (by simp; omega) ⟨_, rfl, bin_addI ?_⟩
              rw [ej]
              refine idx_L g1 (by simp; omega) ⟨_, rfl, ?_⟩
              refine cut_S (by rw [mkS_len, sizeLine_eq]; omega) ?_
              rw [scut_mk, cut_both _ _ _ b0 b1]
              have hsl : (((flat T).drop (flat (atk wr M T j)).length).take ((flat (atk wr M T (j + 1))).length - (flat (atk wr M T j)).length)).length ≤ 250 := by rw [List.length_take, List.length_drop]; omega
              have hpl := pre_len _ (mkF_isMk [] _ (hPW j) (.inl rfl))
              refine bin_addS (by rw [mkS_len, mkS_len, sizeLine_eq]; omega) (bin_addI ?_)
              rw [mkS_append, ej]
              refine idx_L g1 (by simp; omega) ⟨_, rfl, ?_⟩
              refine cut_S (by rw [mkS_len, sizeLine_eq]; omega) ⟨rfl, ?_⟩
              rw [scut_mk, cut_hi, htk]
              refine hrun (atk wr M T (j + 1)) _ _ (hPW (j + 1)) (by omega) (cmp_neS ?_)
              have hlen : ((List.range j).map (pcn wr M T)).length ≤ 300 := by simp; omega
              have hnext : ∀ σ' : St, σ'.loc "text" = some (.str (mkS (flat T))) → σ'.loc "cuts" = some (.lst ((List.range (M + 2)).map fun n => PV.int ((flat (atk wr M T n)).length : Nat))) → σ'.loc "pieces" = some (.ref a) → σ'.H a = some ⟨true, (((List.range j).map (pcn wr M T)).map fun p => .str (mkS p)) ++ [.str (mkS (pcn wr M T j))]⟩ → K .next σ' := fun σ' m1 m2 m3 m4 => kn σ' ⟨j + 1, by omega, rfl, m1, m2, m3, by rw [m4, List.range_succ, List.map_append, List.map_append]; rfl⟩
              rw [ne_nilS]
              cases e : mkF [] (atk wr M T (j + 1)) with
              | nil =>
                rw [if_neg (by simp [pre])]
                refine ⟨a, _, rfl, l4, _, l4, by rw [List.length_map, sizeLine_eq]; omega, ?_⟩
                refine hnext _ (by simp only [Loc.set_apply, String.reduceEq, reduceIte, l1]) (by simp only [Loc.set_apply, String.reduceEq, reduceIte, l2]) (by simp only [Loc.set_apply, String.reduceEq, reduceIte, l3]) ?_
                show (LH.set _ a _) a = _
                rw [LH.set_self]
                unfold pcn
                rw [e]; simp [post]
              | cons k r =>
                rw [if_pos (by simp [pre])]
                refine in_addS (by rw [mkS_len, mkS_len, sizeLine_eq, List.length_append]; simp only [List.length_cons, List.length_nil]; omega) ?_
                rw [mkS_append]
                refine ⟨a, _, rfl, l4, _, l4, by rw [List.length_map, sizeLine_eq]; omega, ?_⟩
                refine hnext _ (by simp only [Loc.set_apply, String.reduceEq, reduceIte, l1]) (by simp only [Loc.set_apply, String.reduceEq, reduceIte, l2]) (by simp only [Loc.set_apply, String.reduceEq, reduceIte, l3]) ?_
                show (LH.set _ a _) a = _
                rw [LH.set_self]
                unfold pcn
                rw [e]; rfl
          · rintro σ ⟨j, hj, er, l1, l2, l3, l4⟩
            have hjM : j = M + 1 := by
              by_cases h : j = M + 1
              · exact h
              · rw [show M + 1 - j = (M + 1 - (j + 1)) + 1 from by omega, List.range'_succ, List.map_cons] at er; cases er
            subst hjM
            exact get_W l3 (hQ a _ _ l4)
          · refine ⟨0, Nat.zero_le _, ?_, ?_, ?_, ?_, ?_⟩
            · rw [Nat.sub_zero, ← List.range_eq_range']; rfl
            · simp only [Loc.set_apply, String.reduceEq, reduceIte, lt]
            · simp only [Loc.set_apply, String.reduceEq, reduceIte, lc]
            · simp only [Loc.set_apply, String.reduceEq, reduceIte]
            · show (LH.set _ a _) a = _
              rw [LH.set_self]; rfl
  intro T wr H Q hT hc hl hw1 hw9 hq
  unfold callW
  simp only [ofS0, ofS1, ofSe, Loc.set_apply, argLoc_cons, argLoc_nil, String.reduceEq, reduceIte, getW_some, capLoc, List.mem_singleton]
  have hfl := flat_len [] T hT
  have hV : vis T ≤ 250 := by omega
  generalize hM : cutsN wr (vis T) = M
  have hM1 := cutsN_1 wr (vis T) hw1
  have hM2 := cutsN_2 wr (vis T) hw1
  rw [hM] at hM1 hM2
  have hMV : M ≤ vis T := by
    rcases hM1 with h | h
    · omega
    · have := Nat.le_mul_of_pos_right M (show 0 < wr by omega); omega
  have hpre : ∀ n, ∃ R, T = atk wr M T n ++ R := fun n => by
    unfold atk
    split
    · exact ⟨_, (cut_app _ T).symm⟩
    · exact ⟨[], (List.append_nil T).symm⟩
  have hPW : ∀ n, PW [] (atk wr M T n) := fun n => by
    obtain ⟨R, e⟩ := hpre n
    have := hT
    rw [e, PW_app] at this
    exact this.1
  have htk : ∀ n, (flat T).take (flat (atk wr M T n)).length = flat (atk wr M T n) := fun n => by
    obtain ⟨R, e⟩ := hpre n
    have e2 : flat T = flat (atk wr M T n) ++ flat R := by rw [← flat_app, ← e]
    rw [e2, List.take_left]
  have hle : ∀ n, (flat (atk wr M T n)).length ≤ (flat T).length := fun n => by
    have := congrArg List.length (htk n)
    rw [List.length_take] at this; omega
  have hpc := pcs_law wr M T hw1 hM1 hM2 hc (vis T) 0 (Nat.zero_le _) (by omega)
  rw [Nat.zero_mul, show cutA 0 T = [] from by simp [cutA], show cutB 0 T = T from by simp [cutB], show mkF [] [] = [] from rfl, Nat.sub_zero, ← List.range_eq_range'] at hpc
  rw [hpc] at hq
  refine len_S (by rw [mkS_len]; omega) (bin_addI ?_)
  rw [mkS_len, show ((flat T).length : Int) + 1 = (((flat T).length + 1 : Nat) : Int) from by omega]
  refine ⟨_, iterOf_rng (small_ok (by omega) (by omega) (by omega)), by rw [List.length_map, rng01, List.length_map, List.length_range, sizeLine_eq]; omega, ?_⟩
  rw [rng01, List.map_map]
  refine compW_map (fun p => match p with | .int i => .int (sn ((flat T).take i.toNat)) | p => p) _ (fun p hp R1 hr => ?_) ?_
  · obtain ⟨k, hk, rfl⟩ := List.mem_map.mp hp
    rw [List.mem_range] at hk
    simp only [Function.comp, Int.toNat_natCast] at hr
    simp only [Function.comp, Loc.set_apply, argLoc_cons, argLoc_nil, capLoc, List.mem_singleton, String.reduceEq, reduceIte, getW_some]
    refine ⟨_, rfl, ?_⟩
    refine cut_S (by rw [mkS_len, sizeLine_eq]; omega) ⟨_, rfl, ?_⟩
    rw [scut_mk, cut_hi]
    refine count_W (bin_mulI (mulI_ok (by decide)) (bin_subI ⟨_, rfl, ?_⟩))
    refine cut_S (by rw [mkS_len, sizeLine_eq]; omega) ⟨_, rfl, ?_⟩
    rw [scut_mk, cut_hi]
    refine count_W (bin_subI ?_)
    have e : (k : Int) - 2 * (((flat T).take k).count 0 : Nat) - (((flat T).take k).count 1 : Nat) = sn ((flat T).take k) := by
      unfold sn
      rw [List.length_take, Nat.min_eq_left (by omega)]
    rw [e]; exact hr
  rw [List.map_map]
  have hseen : List.map ((fun p => match p with | PV.int i => PV.int (sn ((flat T).take i.toNat)) | p => p) ∘ (PV.int ∘ fun i => ((i : Nat) : Int))) (List.range ((flat T).length + 1)) = (seen T).map .int := by
    unfold seen
    rw [List.map_map]
    exact List.map_congr_left fun i _ => by simp
  rw [hseen]
  refine listW_lst ⟨by decide, listW_lst ?_⟩
  have hlast : ((seen T).map PV.int)[((seen T).map PV.int).length - 1]? = some (.int (vis T : Nat)) := by
    rw [List.length_map, seen_len, List.getElem?_map, Nat.add_sub_cancel, seen_get T _ (Nat.le_refl _), List.take_length, sn_flat [] T hT]; rfl
  refine ⟨1, rfl, idx_Llast hlast ⟨by omega, by omega, ?_⟩⟩
  refine ⟨_, iterOf_rng (small_ok (by omega) (by omega) (by omega)), by rw [List.length_map, cutsN_range wr _ hw1, List.length_map, List.length_range, sizeLine_eq]; omega, ?_⟩
  rw [cutsN_range wr _ hw1, List.map_map, hM]
  refine compW_map (fun p => match p with | .int i => .int ((flat (cutA i.toNat T)).length : Nat) | p => p) _ (fun p hp R1 hr => ?_) ?_
  · obtain ⟨k, hk, rfl⟩ := List.mem_map.mp hp
    rw [List.mem_range] at hk
    have hkv : (k + 1) * wr ≤ vis T := by
      have := Nat.mul_le_mul_right wr (show k + 1 ≤ M by omega)
      rcases hM1 with h | h <;> omega
    obtain ⟨hi1, hi2⟩ := seen_idx T hT ((k + 1) * wr) (Nat.mul_pos (by omega) hw1) hkv
    simp only [Function.comp, Int.toNat_natCast] at hr
    simp only [Function.comp, Loc.set_apply, capLoc, List.mem_singleton, String.reduceEq, reduceIte, getW_some]
    refine ⟨seen T, rfl, _, rfl, hi2, by rw [seen_len]; omega, ?_⟩
    rw [hi1]; exact hr
  rw [List.map_map]
  refine listW_lst (bin_addLL (by simp [sizeLine_eq]; omega) (listW_lst (len_S (by rw [mkS_len]; omega) ⟨by simp [sizeLine_eq], listW_lst (bin_addLL (by simp [sizeLine_eq]; omega) (listW_lst ?_))⟩)))
  have hcuts : ([PV.int 0] ++ List.map ((fun p => match p with | PV.int i => PV.int ((flat (cutA i.toNat T)).length : Nat) | p => p) ∘ (PV.int ∘ fun i => (((i + 1) * wr : Nat) : Int))) (List.range M)) ++ [PV.int ((mkS (flat T)).length : Nat)] = (List.range (M + 2)).map fun n => PV.int ((flat (atk wr M T n)).length : Nat) := by
    rw [List.range_succ, List.map_append, List.range_succ_eq_map, List.map_cons, List.map_map, mkS_len]
    have a0 : atk wr M T 0 = [] := by unfold atk; rw [if_pos (Nat.zero_le _), Nat.zero_mul]; simp [cutA]
    have a1 : atk wr M T (M + 1) = T := if_neg (by omega)
    rw [a0, List.map_singleton, a1]
    show PV.int 0 :: _ = PV.int 0 :: _
    congr 2
    refine List.map_congr_left fun i hi => ?_
    rw [List.mem_range] at hi
    have a2 : atk wr M T (i + 1) = cutA ((i + 1) * wr) T := if_pos (by omega)
    simp only [Function.comp, Int.toNat_natCast]
    rw [show i.succ = i + 1 from rfl, a2]
  rw [hcuts]
  clear hcuts hseen hlast
  exact ⟨T, wr, M, hPW, htk, hl, by omega, by simp only [Loc.set_apply, argLoc_cons, String.reduceEq, reduceIte], by simp only [Loc.set_apply, String.reduceEq, reduceIte], fun a loc' H' h => .inr ⟨a, _, rfl, h, hq⟩⟩
end Mine
namespace Mine
/-- what the loop of _split_line does -/
def WhS (σ : St) (Q : Fl → St → Prop) : Prop :=
  ∃ (T : List Tk) (wr : Nat), wr < vis T ∧ PW [] T ∧ (flat T).length ≤ 902 ∧ σ.loc "i" = some (.int 0) ∧ σ.loc "n" = some (.int 0) ∧ σ.loc "mark" = some (.str (mkS [])) ∧ σ.loc "max" = some (.int (wr : Nat)) ∧ σ.loc "size" = some (.int ((flat T).length : Nat)) ∧ σ.loc "text" = some (.str (mkS (flat T))) ∧
    ∀ σ', SameBut ["i", "n", "mark"] σ σ' → σ'.loc "i" = some (.int ((flat (cutA wr T)).length : Nat)) → σ'.loc "mark" = some (.str (mkS (mkF [] (cutA wr T)))) → Q .next σ'
/-- a mark that is open at the cut -/
def IfS (σ : St) (Q : Fl → St → Prop) : Prop :=
  ∃ m X Y : List Nat, m.length ≤ 1 ∧ X.length ≤ 1000 ∧ Y.length ≤ 1000 ∧ σ.loc "mark" = some (.str (mkS m)) ∧ σ.loc "line1" = some (.str (mkS X)) ∧ σ.loc "line2" = some (.str (mkS Y)) ∧
    ∀ σ', SameBut ["line1", "line2"] σ σ' → σ'.loc "line1" = some (.str (mkS (X ++ post m))) → σ'.loc "line2" = some (.str (mkS (pre m ++ Y))) → Q .next σ'
/-- the lines behind the loop -/
def Rs2 (C : Addr) (W' : List PV → LH → (PV → LH → Prop) → Prop) (σ : St) (Q : Fl → St → Prop) : Prop :=
  ∃ (fs : List (String × PV)) (a : Addr) (xs : List PV) (line : PV) (m X Y : List Nat), m.length ≤ 1 ∧ (X ++ Y).length ≤ 902 ∧ xs.length ≤ 10000 ∧ fs.lookup "_split_line" = none ∧ σ.H a = some ⟨true, xs⟩ ∧ σ.loc "text" = some (.str (mkS (X ++ Y))) ∧ σ.loc "i" = some (.int (X.length : Nat)) ∧ σ.loc "mark" = some (.str (mkS m)) ∧
    σ.loc "self" = some (.obj C fs) ∧ σ.loc "data_list" = some (.ref a) ∧ σ.loc "line_num" = some line ∧
    W' [.obj C fs, .ref a, .str (mkS [62]), .str (mkS (pre m ++ Y))] (σ.H.set a ⟨true, xs ++ [.tup [line, .str (mkS (X ++ post m))]]⟩) fun r H₃ => r = .none ∧ ∀ loc', Q .next ⟨loc', H₃⟩
/-- the lines behind the early ends -/
def Rs1 (C : Addr) (W' : List PV → LH → (PV → LH → Prop) → Prop) (σ : St) (Q : Fl → St → Prop) : Prop :=
  ∃ (fs : List (String × PV)) (a : Addr) (xs : List PV) (line : PV) (T : List Tk) (wr : Nat), wr < vis T ∧ PW [] T ∧ (flat T).length ≤ 902 ∧ xs.length ≤ 10000 ∧ fs.lookup "_split_line" = none ∧ σ.H a = some ⟨true, xs⟩ ∧ σ.loc "text" = some (.str (mkS (flat T))) ∧ σ.loc "size" = some (.int ((flat T).length : Nat)) ∧ σ.loc "max" = some (.int (wr : Nat)) ∧
    σ.loc "self" = some (.obj C fs) ∧ σ.loc "data_list" = some (.ref a) ∧ σ.loc "line_num" = some line ∧
    W' [.obj C fs, .ref a, .str (mkS [62]), .str (mkS (pre (mkF [] (cutA wr T)) ++ flat (cutB wr T)))] (σ.H.set a ⟨true, xs ++ [.tup [line, .str (mkS (flat (cutA wr T) ++ post (mkF [] (cutA wr T))))]]⟩) fun r H₃ => r = .none ∧ ∀ loc', Q .next ⟨loc', H₃⟩
/-- no line number: the text as it is -/
def S1S (σ : St) (Q : Fl → St → Prop) : Prop :=
  ∃ (a : Addr) (xs : List PV) (line text : PV) (t : Bool), xs.length ≤ 10000 ∧ (∀ H R, R t → truthW line H R) ∧ σ.H a = some ⟨true, xs⟩ ∧ σ.loc "data_list" = some (.ref a) ∧ σ.loc "line_num" = some line ∧ σ.loc "text" = some text ∧
    (t = false → Q (.ret .none) ⟨σ.loc, σ.H.set a ⟨true, xs ++ [.tup [line, text]]⟩⟩) ∧ (t = true → Q .next σ)
/-- a text that needs no cut -/
def S4S (σ : St) (Q : Fl → St → Prop) : Prop :=
  ∃ (a : Addr) (xs : List PV) (line : PV) (T : List Tk) (wr : Nat), xs.length ≤ 10000 ∧ PW [] T ∧ mkF [] T = [] ∧ (flat T).length ≤ 902 ∧ σ.H a = some ⟨true, xs⟩ ∧ σ.loc "data_list" = some (.ref a) ∧ σ.loc "line_num" = some line ∧ σ.loc "text" = some (.str (mkS (flat T))) ∧ σ.loc "size" = some (.int ((flat T).length : Nat)) ∧ σ.loc "max" = some (.int (wr : Nat)) ∧
    (vis T ≤ wr → Q (.ret .none) ⟨σ.loc, σ.H.set a ⟨true, xs ++ [.tup [line, .str (mkS (flat T))]]⟩⟩) ∧ (wr < vis T → Q .next σ)
theorem split_gen (w : World) (n v : Nat) (W' : List PV → LH → (PV → LH → Prop) → Prop)
    (hop' : ∀ (h₀ : Heap) (prog : Program) (env : Env), Gr (hd09.heap_39 w.params) h₀ → ∀ loc Z H s ps vs, Sat h₀ Z env loc H s.heap → VRs Z ps vs → MOp h₀ prog w n env loc Z H s (call (.ref 67) vs) (W' ps H))
    (hmono : ∀ ps H (Q Q' : PV → LH → Prop), (∀ r H', Q r H' → Q' r H') → W' ps H Q → W' ps H Q') (hrec : v = 0 ∨ ∃ u, v = u + 1 ∧ W' = SpW 113 u) (h₀ : Heap) (prog : Program) (env : Env) (G : Gr (hd09.heap_39 w.params) h₀) :
    ∀ loc Z H s ps vs, Sat h₀ Z env loc H s.heap → VRs Z ps vs → MOp h₀ prog w (n + 1) env loc Z H s (call (.ref 67) vs) (SpW 113 v ps H) := by
  intro loc Z H s ps vs S hv
  refine' MOp.mono (mfn_ok (names := ["self", "data_list", "line_num", "text"]) G ?ho ?hcd ?hco ?hgen ?hk ?hbind ?hkind ?hnn ?hnd ?hb loc Z H s ps vs S hv) ?hw
  case ho => k_is
  case hcd => k_is
  case hco => rfl
  case hgen => rfl
  case hk => rfl
  case hbind => exact fun s => bind4 fun a b c d => rfl
  case hkind => decide +kernel
  case hnn => decide
  case hnd => decide +kernel
  case hb =>
    intro L'
    with_reducible refine' xs_cons ?_ ?_
    · refine' ExOk.mono (F' := S1S) ?s1 ?s1m
      case s1 => repeat' (first | with_reducible exact ev_int _ _ _ | with_reducible exact ev_str _ _ _ | with_reducible exact ev_none _ _ | with_reducible exact ev_bool _ _ _ | (with_reducible refine' ev_name _ _ ?_ ?_) | (with_reducible refine' ev_binop ?_ ?_) | (with_reducible refine' ev_neg ?_) | (with_reducible refine' ev_cmp ?_ ?_ ?_) | (with_reducible refine' ev_ifexp ?_ ?_ ?_) | (with_reducible refine' ev_list ?_) | (with_reducible refine' ev_tuple ?_) | with_reducible exact es_nil | (with_reducible refine' es_cons ?_ ?_ ?_) | (with_reducible refine' ev_cut ?_ ?_ ?_) | (with_reducible refine' ev_idx ?_ ?_ ?_) | with_reducible exact pt_none | (with_reducible refine' pt_some ?_) | (with_reducible refine' bt_cmp ?_ ?_ ?_) | (with_reducible refine' bt_not ?_) | (with_reducible refine' bt_bool ?_) | with_reducible exact at_and_nil | with_reducible exact at_or_nil | (with_reducible refine' at_and_cons ?_ ?_) | (with_reducible refine' at_or_cons ?_ ?_) | with_reducible exact xs_nil | (with_reducible refine' xs_cons ?_ ?_) | (with_reducible refine' st_assign ?_ ?_ ?_) | (with_reducible refine' st_aug ?_ ?_ ?_) | (with_reducible refine' st_if ?_ ?_ ?_) | (with_reducible refine' st_append ?_ ?_ ?_ ?_ ?_ ?_) | (with_reducible refine' st_augidx ?_ ?_ ?_ ?_) | (with_reducible refine' st_ret ?_) | with_reducible exact st_ret0 | with_reducible exact st_cont | with_reducible exact st_pass | (with_reducible refine' st_while ?_ ?_) | (with_reducible refine' st_for ?_ (as_name ?_) ?_ ?_ ?_) | (with_reducible refine' ev_len (by assumption) ?_ ?_ ?_ ?_ ?_ ?_ ?_ ?_) | (with_reducible refine' ev_chr (by assumption) ?_ ?_ ?_ ?_ ?_ ?_ ?_ ?_) | (with_reducible refine' ev_range (by assumption) ?_ ?_ ?_ ?_ ?_ ?_ ?_ ?_) | (with_reducible refine' ev_abs (by assumption) ?_ ?_ ?_ ?_ ?_ ?_ ?_ ?_) | (with_reducible refine' ev_count _ ?_ ?_ ?_ ?_ ?_) | (with_reducible refine' ev_split _ ?_ ?_ ?_ ?_ ?_) | (with_reducible refine' ev_index _ ?_ ?_ ?_ ?_) | (with_reducible refine' ev_attr (C := 113) (by assumption) ?_ ?_ ?_ ?_ ?_ ?_) | with_reducible exact ts_nil | (with_reducible refine' ts_one ?_) | ((with_reducible show nsIn _ _ _ = _); k_is) | ((with_reducible show plainGet _ _ _ = _); k_is) | ((with_reducible show hasDictIn _ _ = _); k_is) | ((with_reducible show findIn _ _ _ = _); k_is) | ((with_reducible show noGet _ _ = _); k_is) | ((with_reducible show Stores _ _); first | exact Or.inl rfl | exact Or.inr ⟨rfl, rfl⟩) | ((with_reducible show (_ == _) = false); decide) | ((with_reducible show behindInMarks _ _ = _); with_unfolding_all rfl) | ((with_reducible show _ ≤ _); decide) | ((with_reducible show _ = _); rfl) | ((with_reducible show ∀ _, _ = _); intro _; rfl) | ((with_reducible show ∀ _ _, _ = _); intro _ _; rfl) | ((with_reducible show ∀ _ _ _, _ = _); intro _ _ _; rfl) | (with_reducible refine' bt_val ?_ ?_))
      case s1m =>
        rintro ⟨loc, H⟩ Q ⟨a, xs, line, text, t, hxs, htr, hH, ld, ll, lt, h0, h1⟩
        simp only at hH ld ll lt
        dsimp only
        refine get_W ll (htr _ _ ?_)
        cases t with
        | false =>
          rw [if_pos (by decide)]
          exact get_W ld ⟨a, _, rfl, hH, get_W ll (get_W lt ⟨by rw [sizeLine_eq]; simp, xs, hH, by rw [sizeLine_eq]; omega, h0 rfl⟩)⟩
        | true =>
          rw [if_neg (by decide)]
          exact h1 rfl
    with_reducible refine' xs_cons ?_ ?_
    · repeat' (first | with_reducible exact ev_int _ _ _ | with_reducible exact ev_str _ _ _ | with_reducible exact ev_none _ _ | with_reducible exact ev_bool _ _ _ | (with_reducible refine' ev_name _ _ ?_ ?_) | (with_reducible refine' ev_binop ?_ ?_) | (with_reducible refine' ev_neg ?_) | (with_reducible refine' ev_cmp ?_ ?_ ?_) | (with_reducible refine' ev_ifexp ?_ ?_ ?_) | (with_reducible refine' ev_list ?_) | (with_reducible refine' ev_tuple ?_) | with_reducible exact es_nil | (with_reducible refine' es_cons ?_ ?_ ?_) | (with_reducible refine' ev_cut ?_ ?_ ?_) | (with_reducible refine' ev_idx ?_ ?_ ?_) | with_reducible exact pt_none | (with_reducible refine' pt_some ?_) | (with_reducible refine' bt_cmp ?_ ?_ ?_) | (with_reducible refine' bt_not ?_) | (with_reducible refine' bt_bool ?_) | with_reducible exact at_and_nil | with_reducible exact at_or_nil | (with_reducible refine' at_and_cons ?_ ?_) | (with_reducible refine' at_or_cons ?_ ?_) | with_reducible exact xs_nil | (with_reducible refine' xs_cons ?_ ?_) | (with_reducible refine' st_assign ?_ ?_ ?_) | (with_reducible refine' st_aug ?_ ?_ ?_) | (with_reducible refine' st_if ?_ ?_ ?_) | (with_reducible refine' st_append ?_ ?_ ?_ ?_ ?_ ?_) | (with_reducible refine' st_augidx ?_ ?_ ?_ ?_) | (with_reducible refine' st_ret ?_) | with_reducible exact st_ret0 | with_reducible exact st_cont | with_reducible exact st_pass | (with_reducible refine' st_while ?_ ?_) | (with_reducible refine' st_for ?_ (as_name ?_) ?_ ?_ ?_) | (with_reducible refine' ev_len (by assumption) ?_ ?_ ?_ ?_ ?_ ?_ ?_ ?_) | (with_reducible refine' ev_chr (by assumption) ?_ ?_ ?_ ?_ ?_ ?_ ?_ ?_) | (with_reducible refine' ev_range (by assumption) ?_ ?_ ?_ ?_ ?_ ?_ ?_ ?_) | (with_reducible refine' ev_abs (by assumption) ?_ ?_ ?_ ?_ ?_ ?_ ?_ ?_) | (with_reducible refine' ev_count _ ?_ ?_ ?_ ?_ ?_) | (with_reducible refine' ev_split _ ?_ ?_ ?_ ?_ ?_) | (with_reducible refine' ev_index _ ?_ ?_ ?_ ?_) | (with_reducible refine' ev_attr (C := 113) (by assumption) ?_ ?_ ?_ ?_ ?_ ?_) | with_reducible exact ts_nil | (with_reducible refine' ts_one ?_) | ((with_reducible show nsIn _ _ _ = _); k_is) | ((with_reducible show plainGet _ _ _ = _); k_is) | ((with_reducible show hasDictIn _ _ = _); k_is) | ((with_reducible show findIn _ _ _ = _); k_is) | ((with_reducible show noGet _ _ = _); k_is) | ((with_reducible show Stores _ _); first | exact Or.inl rfl | exact Or.inr ⟨rfl, rfl⟩) | ((with_reducible show (_ == _) = false); decide) | ((with_reducible show behindInMarks _ _ = _); with_unfolding_all rfl) | ((with_reducible show _ ≤ _); decide) | ((with_reducible show _ = _); rfl) | ((with_reducible show ∀ _, _ = _); intro _; rfl) | ((with_reducible show ∀ _ _, _ = _); intro _ _; rfl) | ((with_reducible show ∀ _ _ _, _ = _); intro _ _ _; rfl) | (with_reducible refine' bt_val ?_ ?_))
    with_reducible refine' xs_cons ?_ ?_
    · repeat' (first | with_reducible exact ev_int _ _ _ | with_reducible exact ev_str _ _ _ | with_reducible exact ev_none _ _ | with_reducible exact ev_bool _ _ _ | (with_reducible refine' ev_name _ _ ?_ ?_) | (with_reducible refine' ev_binop ?_ ?_) | (with_reducible refine' ev_neg ?_) | (with_reducible refine' ev_cmp ?_ ?_ ?_) | (with_reducible refine' ev_ifexp ?_ ?_ ?_) | (with_reducible refine' ev_list ?_) | (with_reducible refine' ev_tuple ?_) | with_reducible exact es_nil | (with_reducible refine' es_cons ?_ ?_ ?_) | (with_reducible refine' ev_cut ?_ ?_ ?_) | (with_reducible refine' ev_idx ?_ ?_ ?_) | with_reducible exact pt_none | (with_reducible refine' pt_some ?_) | (with_reducible refine' bt_cmp ?_ ?_ ?_) | (with_reducible refine' bt_not ?_) | (with_reducible refine' bt_bool ?_) | with_reducible exact at_and_nil | with_reducible exact at_or_nil | (with_reducible refine' at_and_cons ?_ ?_) | (with_reducible refine' at_or_cons ?_ ?_) | with_reducible exact xs_nil | (with_reducible refine' xs_cons ?_ ?_) | (with_reducible refine' st_assign ?_ ?_ ?_) | (with_reducible refine' st_aug ?_ ?_ ?_) | (with_reducible refine' st_if ?_ ?_ ?_) | (with_reducible refine' st_append ?_ ?_ ?_ ?_ ?_ ?_) | (with_reducible refine' st_augidx ?_ ?_ ?_ ?_) | (with_reducible refine' st_ret ?_) | with_reducible exact st_ret0 | with_reducible exact st_cont | with_reducible exact st_pass | (with_reducible refine' st_while ?_ ?_) | (with_reducible refine' st_for ?_ (as_name ?_) ?_ ?_ ?_) | (with_reducible refine' ev_len (by assumption) ?_ ?_ ?_ ?_ ?_ ?_ ?_ ?_) | (with_reducible refine' ev_chr (by assumption) ?_ ?_ ?_ ?_ ?_ ?_ ?_ ?_) | (with_reducible refine' ev_range (by assumption) ?_ ?_ ?_ ?_ ?_ ?_ ?_ ?_) | (with_reducible refine' ev_abs (by assumption) ?_ ?_ ?_ ?_ ?_ ?_ ?_ ?_) | (with_reducible refine' ev_count _ ?_ ?_ ?_ ?_ ?_) | (with_reducible refine' ev_split _ ?_ ?_ ?_ ?_ ?_) | (with_reducible refine' ev_index _ ?_ ?_ ?_ ?_) | (with_reducible refine' ev_attr (C := 113) (by assumption) ?_ ?_ ?_ ?_ ?_ ?_) | with_reducible exact ts_nil | (with_reducible refine' ts_one ?_) | ((with_reducible show nsIn _ _ _ = _); k_is) | ((with_reducible show plainGet _ _ _ = _); k_is) | ((with_reducible show hasDictIn _ _ = _); k_is) | ((with_reducible show findIn _ _ _ = _); k_is) | ((with_reducible show noGet _ _ = _); k_is) | ((with_reducible show Stores _ _); first | exact Or.inl rfl | exact Or.inr ⟨rfl, rfl⟩) | ((with_reducible show (_ == _) = false); decide) | ((with_reducible show behindInMarks _ _ = _); with_unfolding_all rfl) | ((with_reducible show _ ≤ _); decide) | ((with_reducible show _ = _); rfl) | ((with_reducible show ∀ _, _ = _); intro _; rfl) | ((with_reducible show ∀ _ _, _ = _); intro _ _; rfl) | ((with_reducible show ∀ _ _ _, _ = _); intro _ _ _; rfl) | (with_reducible refine' bt_val ?_ ?_))
    with_reducible refine' xs_cons ?_ ?_
    · refine' ExOk.mono (F' := S4S) ?s4 ?s4m
      case s4 => repeat' (first | with_reducible exact ev_int _ _ _ | with_reducible exact ev_str _ _ _ | with_reducible exact ev_none _ _ | with_reducible exact ev_bool _ _ _ | (with_reducible refine' ev_name _ _ ?_ ?_) | (with_reducible refine' ev_binop ?_ ?_) | (with_reducible refine' ev_neg ?_) | (with_reducible refine' ev_cmp ?_ ?_ ?_) | (with_reducible refine' ev_ifexp ?_ ?_ ?_) | (with_reducible refine' ev_list ?_) | (with_reducible refine' ev_tuple ?_) | with_reducible exact es_nil | (with_reducible refine' es_cons ?_ ?_ ?_) | (with_reducible refine' ev_cut ?_ ?_ ?_) | (with_reducible refine' ev_idx ?_ ?_ ?_) | with_reducible exact pt_none | (with_reducible refine' pt_some ?_) | (with_reducible refine' bt_cmp ?_ ?_ ?_) | (with_reducible refine' bt_not ?_) | (with_reducible refine' bt_bool ?_) | with_reducible exact at_and_nil | with_reducible exact at_or_nil | (with_reducible refine' at_and_cons ?_ ?_) | (with_reducible refine' at_or_cons ?_ ?_) | with_reducible exact xs_nil | (with_reducible refine' xs_cons ?_ ?_) | (with_reducible refine' st_assign ?_ ?_ ?_) | (with_reducible refine' st_aug ?_ ?_ ?_) | (with_reducible refine' st_if ?_ ?_ ?_) | (with_reducible refine' st_append ?_ ?_ ?_ ?_ ?_ ?_) | (with_reducible refine' st_augidx ?_ ?_ ?_ ?_) | (with_reducible refine' st_ret ?_) | with_reducible exact st_ret0 | with_reducible exact st_cont | with_reducible exact st_pass | (with_reducible refine' st_while ?_ ?_) | (with_reducible refine' st_for ?_ (as_name ?_) ?_ ?_ ?_) | (with_reducible refine' ev_len (by assumption) ?_ ?_ ?_ ?_ ?_ ?_ ?_ ?_) | (with_reducible refine' ev_chr (by assumption) ?_ ?_ ?_ ?_ ?_ ?_ ?_ ?_) | (with_reducible refine' ev_range (by assumption) ?_ ?_ ?_ ?_ ?_ ?_ ?_ ?_) | (with_reducible refine' ev_abs (by assumption) ?_ ?_ ?_ ?_ ?_ ?_ ?_ ?_) | (with_reducible refine' ev_count _ ?_ ?_ ?_ ?_ ?_) | (with_reducible refine' ev_split _ ?_ ?_ ?_ ?_ ?_) | (with_reducible refine' ev_index _ ?_ ?_ ?_ ?_) | (with_reducible refine' ev_attr (C := 113) (by assumption) ?_ ?_ ?_ ?_ ?_ ?_) | with_reducible exact ts_nil | (with_reducible refine' ts_one ?_) | ((with_reducible show nsIn _ _ _ = _); k_is) | ((with_reducible show plainGet _ _ _ = _); k_is) | ((with_reducible show hasDictIn _ _ = _); k_is) | ((with_reducible show findIn _ _ _ = _); k_is) | ((with_reducible show noGet _ _ = _); k_is) | ((with_reducible show Stores _ _); first | exact Or.inl rfl | exact Or.inr ⟨rfl, rfl⟩) | ((with_reducible show (_ == _) = false); decide) | ((with_reducible show behindInMarks _ _ = _); with_unfolding_all rfl) | ((with_reducible show _ ≤ _); decide) | ((with_reducible show _ = _); rfl) | ((with_reducible show ∀ _, _ = _); intro _; rfl) | ((with_reducible show ∀ _ _, _ = _); intro _ _; rfl) | ((with_reducible show ∀ _ _ _, _ = _); intro _ _ _; rfl) | (with_reducible refine' bt_val ?_ ?_))
      case s4m =>
        rintro ⟨loc, H⟩ Q ⟨a, xs, line, T, wr, hxs, hPT, hcl, hL, hH, ld, ll, lt, ls, lx, h0, h1⟩
        simp only at hH ld ll lt ls lx
        have hfl := flat_len [] _ hPT
        have hba := flat_bal [] _ hPT
        rw [hcl, one_nil] at hba
        dsimp only
        rw [ofS0]
        refine get_W ls (get_W lx (cmp_leI ?_))
        by_cases hs : (((flat T).length : Nat) : Int) ≤ (wr : Int)
        · rw [if_pos (decide_eq_true hs), if_pos rfl]
          exact get_W ld ⟨a, _, rfl, hH, get_W ll (get_W lt ⟨by rw [sizeLine_eq]; simp, xs, hH, by rw [sizeLine_eq]; omega, h0 (by omega)⟩)⟩
        · rw [if_neg (by simpa using hs)]
          refine get_W ls (get_W lt ⟨_, rfl, count_W (bin_mulI (IntMulOk.of_right (by decide)) (bin_subI (get_W lx (cmp_leI ?_))))⟩)
          by_cases hv : vis T ≤ wr
          · rw [if_pos (decide_eq_true (by omega)), if_pos rfl]
            exact get_W ld ⟨a, _, rfl, hH, get_W ll (get_W lt ⟨by rw [sizeLine_eq]; simp, xs, hH, by rw [sizeLine_eq]; omega, h0 hv⟩)⟩
          · rw [if_neg (by rw [decide_eq_true_eq]; omega), if_neg (by decide)]
            exact h1 (by omega)
    refine' XsOk.mono (F' := Rs1 113 W') ?r1 ?r1m
    case r1 =>
      with_reducible refine' xs_cons ?sq1 ?tq1
      case sq1 =>
        repeat' (first | with_reducible exact ev_int _ _ _ | with_reducible exact ev_str _ _ _ | with_reducible exact ev_none _ _ | with_reducible exact ev_bool _ _ _ | (with_reducible refine' ev_name _ _ ?_ ?_) | (with_reducible refine' ev_binop ?_ ?_) | (with_reducible refine' ev_neg ?_) | (with_reducible refine' ev_cmp ?_ ?_ ?_) | (with_reducible refine' ev_ifexp ?_ ?_ ?_) | (with_reducible refine' ev_list ?_) | (with_reducible refine' ev_tuple ?_) | with_reducible exact es_nil | (with_reducible refine' es_cons ?_ ?_ ?_) | (with_reducible refine' ev_cut ?_ ?_ ?_) | (with_reducible refine' ev_idx ?_ ?_ ?_) | with_reducible exact pt_none | (with_reducible refine' pt_some ?_) | (with_reducible refine' bt_cmp ?_ ?_ ?_) | (with_reducible refine' bt_not ?_) | (with_reducible refine' bt_bool ?_) | with_reducible exact at_and_nil | with_reducible exact at_or_nil | (with_reducible refine' at_and_cons ?_ ?_) | (with_reducible refine' at_or_cons ?_ ?_) | with_reducible exact xs_nil | (with_reducible refine' xs_cons ?_ ?_) | (with_reducible refine' st_assign ?_ ?_ ?_) | (with_reducible refine' st_aug ?_ ?_ ?_) | (with_reducible refine' st_if ?_ ?_ ?_) | (with_reducible refine' st_append ?_ ?_ ?_ ?_ ?_ ?_) | (with_reducible refine' st_augidx ?_ ?_ ?_ ?_) | (with_reducible refine' st_ret ?_) | with_reducible exact st_ret0 | with_reducible exact st_cont | with_reducible exact st_pass | (with_reducible refine' st_while ?_ ?_) | (with_reducible refine' st_for ?_ (as_name ?_) ?_ ?_ ?_) | (with_reducible refine' ev_len (by assumption) ?_ ?_ ?_ ?_ ?_ ?_ ?_ ?_) | (with_reducible refine' ev_chr (by assumption) ?_ ?_ ?_ ?_ ?_ ?_ ?_ ?_) | (with_reducible refine' ev_range (by assumption) ?_ ?_ ?_ ?_ ?_ ?_ ?_ ?_) | (with_reducible refine' ev_abs (by assumption) ?_ ?_ ?_ ?_ ?_ ?_ ?_ ?_) | (with_reducible refine' ev_count _ ?_ ?_ ?_ ?_ ?_) | (with_reducible refine' ev_split _ ?_ ?_ ?_ ?_ ?_) | (with_reducible refine' ev_index _ ?_ ?_ ?_ ?_) | (with_reducible refine' ev_attr (C := 113) (by assumption) ?_ ?_ ?_ ?_ ?_ ?_) | with_reducible exact ts_nil | (with_reducible refine' ts_one ?_) | ((with_reducible show nsIn _ _ _ = _); k_is) | ((with_reducible show plainGet _ _ _ = _); k_is) | ((with_reducible show hasDictIn _ _ = _); k_is) | ((with_reducible show findIn _ _ _ = _); k_is) | ((with_reducible show noGet _ _ = _); k_is) | ((with_reducible show Stores _ _); first | exact Or.inl rfl | exact Or.inr ⟨rfl, rfl⟩) | ((with_reducible show (_ == _) = false); decide) | ((with_reducible show behindInMarks _ _ = _); with_unfolding_all rfl) | ((with_reducible show _ ≤ _); decide) | ((with_reducible show _ = _); rfl) | ((with_reducible show ∀ _, _ = _); intro _; rfl) | ((with_reducible show ∀ _ _, _ = _); intro _ _; rfl) | ((with_reducible show ∀ _ _ _, _ = _); intro _ _ _; rfl) | (with_reducible refine' bt_val ?_ ?_))
      case tq1 =>
        with_reducible refine' xs_cons ?sq2 ?tq2
        case sq2 =>
          repeat' (first | with_reducible exact ev_int _ _ _ | with_reducible exact ev_str _ _ _ | with_reducible exact ev_none _ _ | with_reducible exact ev_bool _ _ _ | (with_reducible refine' ev_name _ _ ?_ ?_) | (with_reducible refine' ev_binop ?_ ?_) | (with_reducible refine' ev_neg ?_) | (with_reducible refine' ev_cmp ?_ ?_ ?_) | (with_reducible refine' ev_ifexp ?_ ?_ ?_) | (with_reducible refine' ev_list ?_) | (with_reducible refine' ev_tuple ?_) | with_reducible exact es_nil | (with_reducible refine' es_cons ?_ ?_ ?_) | (with_reducible refine' ev_cut ?_ ?_ ?_) | (with_reducible refine' ev_idx ?_ ?_ ?_) | with_reducible exact pt_none | (with_reducible refine' pt_some ?_) | (with_reducible refine' bt_cmp ?_ ?_ ?_) | (with_reducible refine' bt_not ?_) | (with_reducible refine' bt_bool ?_) | with_reducible exact at_and_nil | with_reducible exact at_or_nil | (with_reducible refine' at_and_cons ?_ ?_) | (with_reducible refine' at_or_cons ?_ ?_) | with_reducible exact xs_nil | (with_reducible refine' xs_cons ?_ ?_) | (with_reducible refine' st_assign ?_ ?_ ?_) | (with_reducible refine' st_aug ?_ ?_ ?_) | (with_reducible refine' st_if ?_ ?_ ?_) | (with_reducible refine' st_append ?_ ?_ ?_ ?_ ?_ ?_) | (with_reducible refine' st_augidx ?_ ?_ ?_ ?_) | (with_reducible refine' st_ret ?_) | with_reducible exact st_ret0 | with_reducible exact st_cont | with_reducible exact st_pass | (with_reducible refine' st_while ?_ ?_) | (with_reducible refine' st_for ?_ (as_name ?_) ?_ ?_ ?_) | (with_reducible refine' ev_len (by assumption) ?_ ?_ ?_ ?_ ?_ ?_ ?_ ?_) | (with_reducible refine' ev_chr (by assumption) ?_ ?_ ?_ ?_ ?_ ?_ ?_ ?_) | (with_reducible refine' ev_range (by assumption) ?_ ?_ ?_ ?_ ?_ ?_ ?_ ?_) | (with_reducible refine' ev_abs (by assumption) ?_ ?_ ?_ ?_ ?_ ?_ ?_ ?_) | (with_reducible refine' ev_count _ ?_ ?_ ?_ ?_ ?_) | (with_reducible refine' ev_split _ ?_ ?_ ?_ ?_ ?_) | (with_reducible refine' ev_index _ ?_ ?_ ?_ ?_) | (with_reducible refine' ev_attr (C := 113) (by assumption) ?_ ?_ ?_ ?_ ?_ ?_) | with_reducible exact ts_nil | (with_reducible refine' ts_one ?_) | ((with_reducible show nsIn _ _ _ = _); k_is) | ((with_reducible show plainGet _ _ _ = _); k_is) | ((with_reducible show hasDictIn _ _ = _); k_is) | ((with_reducible show findIn _ _ _ = _); k_is) | ((with_reducible show noGet _ _ = _); k_is) | ((with_reducible show Stores _ _); first | exact Or.inl rfl | exact Or.inr ⟨rfl, rfl⟩) | ((with_reducible show (_ == _) = false); decide) | ((with_reducible show behindInMarks _ _ = _); with_unfolding_all rfl) | ((with_reducible show _ ≤ _); decide) | ((with_reducible show _ = _); rfl) | ((with_reducible show ∀ _, _ = _); intro _; rfl) | ((with_reducible show ∀ _ _, _ = _); intro _ _; rfl) | ((with_reducible show ∀ _ _ _, _ = _); intro _ _ _; rfl) | (with_reducible refine' bt_val ?_ ?_))
        case tq2 =>
          with_reducible refine' xs_cons ?sq3 ?tq3
          case sq3 =>
            repeat' (first | with_reducible exact ev_int _ _ _ | with_reducible exact ev_str _ _ _ | with_reducible exact ev_none _ _ | with_reducible exact ev_bool _ _ _ | (with_reducible refine' ev_name _ _ ?_ ?_) | (with_reducible refine' ev_binop ?_ ?_) | (with_reducible refine' ev_neg ?_) | (with_reducible refine' ev_cmp ?_ ?_ ?_) | (with_reducible refine' ev_ifexp ?_ ?_ ?_) | (with_reducible refine' ev_list ?_) | (with_reducible refine' ev_tuple ?_) | with_reducible exact es_nil | (with_reducible refine' es_cons ?_ ?_ ?_) | (with_reducible refine' ev_cut ?_ ?_ ?_) | (with_reducible refine' ev_idx ?_ ?_ ?_) | with_reducible exact pt_none | (with_reducible refine' pt_some ?_) | (with_reducible refine' bt_cmp ?_ ?_ ?_) | (with_reducible refine' bt_not ?_) | (with_reducible refine' bt_bool ?_) | with_reducible exact at_and_nil | with_reducible exact at_or_nil | (with_reducible refine' at_and_cons ?_ ?_) | (with_reducible refine' at_or_cons ?_ ?_) | with_reducible exact xs_nil | (with_reducible refine' xs_cons ?_ ?_) | (with_reducible refine' st_assign ?_ ?_ ?_) | (with_reducible refine' st_aug ?_ ?_ ?_) | (with_reducible refine' st_if ?_ ?_ ?_) | (with_reducible refine' st_append ?_ ?_ ?_ ?_ ?_ ?_) | (with_reducible refine' st_augidx ?_ ?_ ?_ ?_) | (with_reducible refine' st_ret ?_) | with_reducible exact st_ret0 | with_reducible exact st_cont | with_reducible exact st_pass | (with_reducible refine' st_while ?_ ?_) | (with_reducible refine' st_for ?_ (as_name ?_) ?_ ?_ ?_) | (with_reducible refine' ev_len (by assumption) ?_ ?_ ?_ ?_ ?_ ?_ ?_ ?_) | (with_reducible refine' ev_chr (by assumption) ?_ ?_ ?_ ?_ ?_ ?_ ?_ ?_) | (with_reducible refine' ev_range (by assumption) ?_ ?_ ?_ ?_ ?_ ?_ ?_ ?_) | (with_reducible refine' ev_abs (by assumption) ?_ ?_ ?_ ?_ ?_ ?_ ?_ ?_) | (with_reducible refine' ev_count _ ?_ ?_ ?_ ?_ ?_) | (with_reducible refine' ev_split _ ?_ ?_ ?_ ?_ ?_) | (with_reducible refine' ev_index _ ?_ ?_ ?_ ?_) | (with_reducible refine' ev_attr (C := 113) (by assumption) ?_ ?_ ?_ ?_ ?_ ?_) | with_reducible exact ts_nil | (with_reducible refine' ts_one ?_) | ((with_reducible show nsIn _ _ _ = _); k_is) | ((with_reducible show plainGet _ _ _ = _); k_is) | ((with_reducible show hasDictIn _ _ = _); k_is) | ((with_reducible show findIn _ _ _ = _); k_is) | ((with_reducible show noGet _ _ = _); k_is) | ((with_reducible show Stores _ _); first | exact Or.inl rfl | exact Or.inr ⟨rfl, rfl⟩) | ((with_reducible show (_ == _) = false); decide) | ((with_reducible show behindInMarks _ _ = _); with_unfolding_all rfl) | ((with_reducible show _ ≤ _); decide) | ((with_reducible show _ = _); rfl) | ((with_reducible show ∀ _, _ = _); intro _; rfl) | ((with_reducible show ∀ _ _, _ = _); intro _ _; rfl) | ((with_reducible show ∀ _ _ _, _ = _); intro _ _ _; rfl) | (with_reducible refine' bt_val ?_ ?_))
          case tq3 =>
            with_reducible refine' xs_cons ?sq4 ?tq4
            case sq4 =>
              refine' ExOk.mono (F' := WhS) ?wh ?whm
              case wh => repeat' (first | with_reducible exact ev_int _ _ _ | with_reducible exact ev_str _ _ _ | with_reducible exact ev_none _ _ | with_reducible exact ev_bool _ _ _ | (with_reducible refine' ev_name _ _ ?_ ?_) | (with_reducible refine' ev_binop ?_ ?_) | (with_reducible refine' ev_neg ?_) | (with_reducible refine' ev_cmp ?_ ?_ ?_) | (with_reducible refine' ev_ifexp ?_ ?_ ?_) | (with_reducible refine' ev_list ?_) | (with_reducible refine' ev_tuple ?_) | with_reducible exact es_nil | (with_reducible refine' es_cons ?_ ?_ ?_) | (with_reducible refine' ev_cut ?_ ?_ ?_) | (with_reducible refine' ev_idx ?_ ?_ ?_) | with_reducible exact pt_none | (with_reducible refine' pt_some ?_) | (with_reducible refine' bt_cmp ?_ ?_ ?_) | (with_reducible refine' bt_not ?_) | (with_reducible refine' bt_bool ?_) | with_reducible exact at_and_nil | with_reducible exact at_or_nil | (with_reducible refine' at_and_cons ?_ ?_) | (with_reducible refine' at_or_cons ?_ ?_) | with_reducible exact xs_nil | (with_reducible refine' xs_cons ?_ ?_) | (with_reducible refine' st_assign ?_ ?_ ?_) | (with_reducible refine' st_aug ?_ ?_ ?_) | (with_reducible refine' st_if ?_ ?_ ?_) | (with_reducible refine' st_append ?_ ?_ ?_ ?_ ?_ ?_) | (with_reducible refine' st_augidx ?_ ?_ ?_ ?_) | (with_reducible refine' st_ret ?_) | with_reducible exact st_ret0 | with_reducible exact st_cont | with_reducible exact st_pass | (with_reducible refine' st_while ?_ ?_) | (with_reducible refine' st_for ?_ (as_name ?_) ?_ ?_ ?_) | (with_reducible refine' ev_len (by assumption) ?_ ?_ ?_ ?_ ?_ ?_ ?_ ?_) | (with_reducible refine' ev_chr (by assumption) ?_ ?_ ?_ ?_ ?_ ?_ ?_ ?_) | (with_reducible refine' ev_range (by assumption) ?_ ?_ ?_ ?_ ?_ ?_ ?_ ?_) | (with_reducible refine' ev_abs (by assumption) ?_ ?_ ?_ ?_ ?_ ?_ ?_ ?_) | (with_reducible refine' ev_count _ ?_ ?_ ?_ ?_ ?_) | (with_reducible refine' ev_split _ ?_ ?_ ?_ ?_ ?_) | (with_reducible refine' ev_index _ ?_ ?_ ?_ ?_) | (with_reducible refine' ev_attr (C := 113) (by assumption) ?_ ?_ ?_ ?_ ?_ ?_) | with_reducible exact ts_nil | (with_reducible refine' ts_one ?_) | ((with_reducible show nsIn _ _ _ = _); k_is) | ((with_reducible show plainGet _ _ _ = _); k_is) | ((with_reducible show hasDictIn _ _ = _); k_is) | ((with_reducible show findIn _ _ _ = _); k_is) | ((with_reducible show noGet _ _ = _); k_is) | ((with_reducible show Stores _ _); first | exact Or.inl rfl | exact Or.inr ⟨rfl, rfl⟩) | ((with_reducible show (_ == _) = false); decide) | ((with_reducible show behindInMarks _ _ = _); with_unfolding_all rfl) | ((with_reducible show _ ≤ _); decide) | ((with_reducible show _ = _); rfl) | ((with_reducible show ∀ _, _ = _); intro _; rfl) | ((with_reducible show ∀ _ _, _ = _); intro _ _; rfl) | ((with_reducible show ∀ _ _ _, _ = _); intro _ _ _; rfl) | (with_reducible refine' bt_val ?_ ?_))
              case whm =>
                rintro σ Q ⟨T, wr, hv, hPT, hL, li0, ln0, lm0, lx0, ls0, lt0, hQ⟩
                refine whileW_inv (fun k σ₁ => ∃ A B', LpI T wr A B' ∧ k = B'.length ∧ SameBut ["i", "n", "mark"] σ σ₁ ∧ σ₁.loc "i" = some (.int ((flat A).length : Nat)) ∧ σ₁.loc "n" = some (.int (vis A : Nat)) ∧ σ₁.loc "mark" = some (.str (mkS (mkF [] A)))) ?step T.length _ ?init
                case init => exact ⟨[], T, LpI.init _ _, rfl, SameBut.refl _ _, li0, ln0, lm0⟩
                case step =>
                  rintro k ⟨loc, H'⟩ K ⟨A, B', hI, rfl, hs, li, ln, lm⟩ kn kc
                  have lx := hs.get (by decide) lx0
                  have ls := hs.get (by decide) ls0
                  have lt := hs.get (by decide) lt0
                  simp only at li ln lm lx ls lt
                  have e : flat T = flat A ++ flat B' := by rw [hI.all, flat_app]
                  have hvA : vis T = vis A + vis B' := by rw [← vis_app, ← hI.all]
                  have hPAB := hPT
                  rw [hI.all, PW_app] at hPAB
                  dsimp only
                  rw [ofS0]
                  refine get_W ln (get_W lx (cmp_ltI ?_))
                  by_cases hlt : vis A < wr
                  · rw [if_pos (decide_eq_true (by omega))]
                    cases B' with
                    | nil => simp only [vis] at hvA; omega
                    | cons t B'' =>
                      have hnx := hI.next hlt
                      have hsz : (flat A).length < (flat T).length := by
                        rw [e, List.length_append]
                        cases t <;> simp [flat, Tk.f]
                      refine get_W li (get_W ls (cmp_ltI ?_))
                      rw [if_pos (decide_eq_true (by omega)), if_pos rfl]
                      refine get_W lt (get_W li ?_)
                      cases t with
                      | op j =>
                        have hg0 : (flat T)[(flat A).length]? = some 0 := by rw [e]; exact get_app (flat A) (flat (.op j :: B'')) 0
                        have hg1 : (flat T)[(flat A).length + 1]? = some j := by rw [e]; exact get_app (flat A) (flat (.op j :: B'')) 1
                        have hl2 : (flat (A ++ [.op j])).length = (flat A).length + 2 := by rw [flat_app, List.length_append]; rfl
                        have hvn : vis (A ++ [.op j]) = vis A := by rw [vis_app]; rfl
                        have hmn : mkF [] (A ++ [.op j]) = [j] := by rw [mkF_app]; rfl
                        refine idx_S hg0 (by omega) (cmp_eqS ?_)
                        rw [if_pos (by rw [mkS_beq]; rfl)]
                        refine get_W li (in_addI ?_)
                        simp only [Loc.set_apply, String.reduceEq, reduceIte, getW_some, lt]
                        rw [show ((flat A).length : Int) + 1 = (((flat A).length + 1 : Nat) : Int) from by omega]
                        refine idx_S hg1 (by omega) (in_addI ?_)
                        exact kn B''.length _ (by simp) ⟨A ++ [.op j], B'', hnx, rfl, ((hs.set (by decide)).set (by decide)).set (by decide), by simp only [Loc.set_apply, String.reduceEq, reduceIte]; exact congrArg (fun z => some (PV.int z)) (by omega), by simp only [Loc.set_apply, String.reduceEq, reduceIte, ln, hvn], by simp only [Loc.set_apply, String.reduceEq, reduceIte, hmn]⟩
                      | cl =>
                        have hg0 : (flat T)[(flat A).length]? = some 1 := by rw [e]; exact get_app (flat A) (flat (.cl :: B'')) 0
                        have hl2 : (flat (A ++ [.cl])).length = (flat A).length + 1 := by rw [flat_app, List.length_append]; rfl
                        have hvn : vis (A ++ [.cl]) = vis A := by rw [vis_app]; rfl
                        have hmn : mkF [] (A ++ [.cl]) = [] := by rw [mkF_app]; rfl
                        refine idx_S hg0 (by omega) (cmp_eqS ?_)
                        rw [if_neg (by rw [mkS_beq]; decide)]
                        refine get_W lt (get_W li (idx_S hg0 (by omega) (cmp_eqS ?_)))
                        rw [if_pos (by rw [ofS1, mkS_beq]; rfl)]
                        refine get_W li (in_addI ?_)
                        exact kn B''.length _ (by simp) ⟨A ++ [.cl], B'', hnx, rfl, (hs.set (by decide)).set (by decide), by simp only [Loc.set_apply, String.reduceEq, reduceIte]; exact congrArg (fun z => some (PV.int z)) (by omega), by simp only [Loc.set_apply, String.reduceEq, reduceIte, ln, hvn], by simp only [Loc.set_apply, String.reduceEq, reduceIte, hmn, ofSe]⟩
                      | sg c =>
                        have hc2 : 2 ≤ c := hPAB.2.1
                        have hg0 : (flat T)[(flat A).length]? = some c := by rw [e]; exact get_app (flat A) (flat (.sg c :: B'')) 0
                        have hl2 : (flat (A ++ [.sg c])).length = (flat A).length + 1 := by rw [flat_app, List.length_append]; rfl
                        have hvn : vis (A ++ [.sg c]) = vis A + 1 := by rw [vis_app]; rfl
                        have hmn : mkF [] (A ++ [.sg c]) = mkF [] A := by rw [mkF_app]; rfl
                        refine idx_S hg0 (by omega) (cmp_eqS ?_)
                        rw [if_neg (by rw [mkS_beq]; simp; omega)]
                        refine get_W lt (get_W li (idx_S hg0 (by omega) (cmp_eqS ?_)))
                        rw [if_neg (by rw [ofS1, mkS_beq]; simp; omega)]
                        refine get_W li (in_addI (get_W (p := .int (vis A : Nat)) (by simp only [Loc.set_apply, String.reduceEq, reduceIte, ln]) (in_addI ?_)))
                        exact kn B''.length _ (by simp) ⟨A ++ [.sg c], B'', hnx, rfl, (hs.set (by decide)).set (by decide), by simp only [Loc.set_apply, String.reduceEq, reduceIte]; exact congrArg (fun z => some (PV.int z)) (by omega), by simp only [Loc.set_apply, String.reduceEq, reduceIte]; exact congrArg (fun z => some (PV.int z)) (by omega), by simp only [Loc.set_apply, String.reduceEq, reduceIte, lm, hmn]⟩
                  · have hw : vis A = wr := by have := hI.le; omega
                    rw [if_neg (by rw [decide_eq_true_eq]; omega), if_neg (by decide)]
                    have hA := hI.done hw
                    exact hQ _ hs (by rw [← hA]; exact li) (by rw [← hA]; exact lm)
            case tq4 =>
              refine' XsOk.mono (F' := Rs2 113 W') ?r2 ?r2m
              case r2 =>
                with_reducible refine' xs_cons ?sq5 ?tq5
                case sq5 =>
                  repeat' (first | with_reducible exact ev_int _ _ _ | with_reducible exact ev_str _ _ _ | with_reducible exact ev_none _ _ | with_reducible exact ev_bool _ _ _ | (with_reducible refine' ev_name _ _ ?_ ?_) | (with_reducible refine' ev_binop ?_ ?_) | (with_reducible refine' ev_neg ?_) | (with_reducible refine' ev_cmp ?_ ?_ ?_) | (with_reducible refine' ev_ifexp ?_ ?_ ?_) | (with_reducible refine' ev_list ?_) | (with_reducible refine' ev_tuple ?_) | with_reducible exact es_nil | (with_reducible refine' es_cons ?_ ?_ ?_) | (with_reducible refine' ev_cut ?_ ?_ ?_) | (with_reducible refine' ev_idx ?_ ?_ ?_) | with_reducible exact pt_none | (with_reducible refine' pt_some ?_) | (with_reducible refine' bt_cmp ?_ ?_ ?_) | (with_reducible refine' bt_not ?_) | (with_reducible refine' bt_bool ?_) | with_reducible exact at_and_nil | with_reducible exact at_or_nil | (with_reducible refine' at_and_cons ?_ ?_) | (with_reducible refine' at_or_cons ?_ ?_) | with_reducible exact xs_nil | (with_reducible refine' xs_cons ?_ ?_) | (with_reducible refine' st_assign ?_ ?_ ?_) | (with_reducible refine' st_aug ?_ ?_ ?_) | (with_reducible refine' st_if ?_ ?_ ?_) | (with_reducible refine' st_append ?_ ?_ ?_ ?_ ?_ ?_) | (with_reducible refine' st_augidx ?_ ?_ ?_ ?_) | (with_reducible refine' st_ret ?_) | with_reducible exact st_ret0 | with_reducible exact st_cont | with_reducible exact st_pass | (with_reducible refine' st_while ?_ ?_) | (with_reducible refine' st_for ?_ (as_name ?_) ?_ ?_ ?_) | (with_reducible refine' ev_len (by assumption) ?_ ?_ ?_ ?_ ?_ ?_ ?_ ?_) | (with_reducible refine' ev_chr (by assumption) ?_ ?_ ?_ ?_ ?_ ?_ ?_ ?_) | (with_reducible refine' ev_range (by assumption) ?_ ?_ ?_ ?_ ?_ ?_ ?_ ?_) | (with_reducible refine' ev_abs (by assumption) ?_ ?_ ?_ ?_ ?_ ?_ ?_ ?_) | (with_reducible refine' ev_count _ ?_ ?_ ?_ ?_ ?_) | (with_reducible refine' ev_split _ ?_ ?_ ?_ ?_ ?_) | (with_reducible refine' ev_index _ ?_ ?_ ?_ ?_) | (with_reducible refine' ev_attr (C := 113) (by assumption) ?_ ?_ ?_ ?_ ?_ ?_) | with_reducible exact ts_nil | (with_reducible refine' ts_one ?_) | ((with_reducible show nsIn _ _ _ = _); k_is) | ((with_reducible show plainGet _ _ _ = _); k_is) | ((with_reducible show hasDictIn _ _ = _); k_is) | ((with_reducible show findIn _ _ _ = _); k_is) | ((with_reducible show noGet _ _ = _); k_is) | ((with_reducible show Stores _ _); first | exact Or.inl rfl | exact Or.inr ⟨rfl, rfl⟩) | ((with_reducible show (_ == _) = false); decide) | ((with_reducible show behindInMarks _ _ = _); with_unfolding_all rfl) | ((with_reducible show _ ≤ _); decide) | ((with_reducible show _ = _); rfl) | ((with_reducible show ∀ _, _ = _); intro _; rfl) | ((with_reducible show ∀ _ _, _ = _); intro _ _; rfl) | ((with_reducible show ∀ _ _ _, _ = _); intro _ _ _; rfl) | (with_reducible refine' bt_val ?_ ?_))
                case tq5 =>
                  with_reducible refine' xs_cons ?sq6 ?tq6
                  case sq6 =>
                    repeat' (first | with_reducible exact ev_int _ _ _ | with_reducible exact ev_str _ _ _ | with_reducible exact ev_none _ _ | with_reducible exact ev_bool _ _ _ | (with_reducible refine' ev_name _ _ ?_ ?_) | (with_reducible refine' ev_binop ?_ ?_) | (with_reducible refine' ev_neg ?_) | (with_reducible refine' ev_cmp ?_ ?_ ?_) | (with_reducible refine' ev_ifexp ?_ ?_ ?_) | (with_reducible refine' ev_list ?_) | (with_reducible refine' ev_tuple ?_) | with_reducible exact es_nil | (with_reducible refine' es_cons ?_ ?_ ?_) | (with_reducible refine' ev_cut ?_ ?_ ?_) | (with_reducible refine' ev_idx ?_ ?_ ?_) | with_reducible exact pt_none | (with_reducible refine' pt_some ?_) | (with_reducible refine' bt_cmp ?_ ?_ ?_) | (with_reducible refine' bt_not ?_) | (with_reducible refine' bt_bool ?_) | with_reducible exact at_and_nil | with_reducible exact at_or_nil | (with_reducible refine' at_and_cons ?_ ?_) | (with_reducible refine' at_or_cons ?_ ?_) | with_reducible exact xs_nil | (with_reducible refine' xs_cons ?_ ?_) | (with_reducible refine' st_assign ?_ ?_ ?_) | (with_reducible refine' st_aug ?_ ?_ ?_) | (with_reducible refine' st_if ?_ ?_ ?_) | (with_reducible refine' st_append ?_ ?_ ?_ ?_ ?_ ?_) | (with_reducible refine' st_augidx ?_ ?_ ?_ ?_) | (with_reducible refine' st_ret ?_) | with_reducible exact st_ret0 | with_reducible exact st_cont | with_reducible exact st_pass | (with_reducible refine' st_while ?_ ?_) | (with_reducible refine' st_for ?_ (as_name ?_) ?_ ?_ ?_) | (with_reducible refine' ev_len (by assumption) ?_ ?_ ?_ ?_ ?_ ?_ ?_ ?_) | (with_reducible refine' ev_chr (by assumption) ?_ ?_ ?_ ?_ ?_ ?_ ?_ ?_) | (with_reducible refine' ev_range (by assumption) ?_ ?_ ?_ ?_ ?_ ?_ ?_ ?_) | (with_reducible refine' ev_abs (by assumption) ?_ ?_ ?_ ?_ ?_ ?_ ?_ ?_) | (with_reducible refine' ev_count _ ?_ ?_ ?_ ?_ ?_) | (with_reducible refine' ev_split _ ?_ ?_ ?_ ?_ ?_) | (with_reducible refine' ev_index _ ?_ ?_ ?_ ?_) | (with_reducible refine' ev_attr (C := 113) (by assumption) ?_ ?_ ?_ ?_ ?_ ?_) | with_reducible exact ts_nil | (with_reducible refine' ts_one ?_) | ((with_reducible show nsIn _ _ _ = _); k_is) | ((with_reducible show plainGet _ _ _ = _); k_is) | ((with_reducible show hasDictIn _ _ = _); k_is) | ((with_reducible show findIn _ _ _ = _); k_is) | ((with_reducible show noGet _ _ = _); k_is) | ((with_reducible show Stores _ _); first | exact Or.inl rfl | exact Or.inr ⟨rfl, rfl⟩) | ((with_reducible show (_ == _) = false); decide) | ((with_reducible show behindInMarks _ _ = _); with_unfolding_all rfl) | ((with_reducible show _ ≤ _); decide) | ((with_reducible show _ = _); rfl) | ((with_reducible show ∀ _, _ = _); intro _; rfl) | ((with_reducible show ∀ _ _, _ = _); intro _ _; rfl) | ((with_reducible show ∀ _ _ _, _ = _); intro _ _ _; rfl) | (with_reducible refine' bt_val ?_ ?_))
                  case tq6 =>
                    with_reducible refine' xs_cons ?sq7 ?tq7
                    case sq7 =>
                      refine' ExOk.mono (F' := IfS) ?iff ?iffm
                      case iff => repeat' (first | with_reducible exact ev_int _ _ _ | with_reducible exact ev_str _ _ _ | with_reducible exact ev_none _ _ | with_reducible exact ev_bool _ _ _ | (with_reducible refine' ev_name _ _ ?_ ?_) | (with_reducible refine' ev_binop ?_ ?_) | (with_reducible refine' ev_neg ?_) | (with_reducible refine' ev_cmp ?_ ?_ ?_) | (with_reducible refine' ev_ifexp ?_ ?_ ?_) | (with_reducible refine' ev_list ?_) | (with_reducible refine' ev_tuple ?_) | with_reducible exact es_nil | (with_reducible refine' es_cons ?_ ?_ ?_) | (with_reducible refine' ev_cut ?_ ?_ ?_) | (with_reducible refine' ev_idx ?_ ?_ ?_) | with_reducible exact pt_none | (with_reducible refine' pt_some ?_) | (with_reducible refine' bt_cmp ?_ ?_ ?_) | (with_reducible refine' bt_not ?_) | (with_reducible refine' bt_bool ?_) | with_reducible exact at_and_nil | with_reducible exact at_or_nil | (with_reducible refine' at_and_cons ?_ ?_) | (with_reducible refine' at_or_cons ?_ ?_) | with_reducible exact xs_nil | (with_reducible refine' xs_cons ?_ ?_) | (with_reducible refine' st_assign ?_ ?_ ?_) | (with_reducible refine' st_aug ?_ ?_ ?_) | (with_reducible refine' st_if ?_ ?_ ?_) | (with_reducible refine' st_append ?_ ?_ ?_ ?_ ?_ ?_) | (with_reducible refine' st_augidx ?_ ?_ ?_ ?_) | (with_reducible refine' st_ret ?_) | with_reducible exact st_ret0 | with_reducible exact st_cont | with_reducible exact st_pass | (with_reducible refine' st_while ?_ ?_) | (with_reducible refine' st_for ?_ (as_name ?_) ?_ ?_ ?_) | (with_reducible refine' ev_len (by assumption) ?_ ?_ ?_ ?_ ?_ ?_ ?_ ?_) | (with_reducible refine' ev_chr (by assumption) ?_ ?_ ?_ ?_ ?_ ?_ ?_ ?_) | (with_reducible refine' ev_range (by assumption) ?_ ?_ ?_ ?_ ?_ ?_ ?_ ?_) | (with_reducible refine' ev_abs (by assumption) ?_ ?_ ?_ ?_ ?_ ?_ ?_ ?_) | (with_reducible refine' ev_count _ ?_ ?_ ?_ ?_ ?_) | (with_reducible refine' ev_split _ ?_ ?_ ?_ ?_ ?_) | (with_reducible refine' ev_index _ ?_ ?_ ?_ ?_) | (with_reducible refine' ev_attr (C := 113) (by assumption) ?_ ?_ ?_ ?_ ?_ ?_) | with_reducible exact ts_nil | (with_reducible refine' ts_one ?_) | ((with_reducible show nsIn _ _ _ = _); k_is) | ((with_reducible show plainGet _ _ _ = _); k_is) | ((with_reducible show hasDictIn _ _ = _); k_is) | ((with_reducible show findIn _ _ _ = _); k_is) | ((with_reducible show noGet _ _ = _); k_is) | ((with_reducible show Stores _ _); first | exact Or.inl rfl | exact Or.inr ⟨rfl, rfl⟩) | ((with_reducible show (_ == _) = false); decide) | ((with_reducible show behindInMarks _ _ = _); with_unfolding_all rfl) | ((with_reducible show _ ≤ _); decide) | ((with_reducible show _ = _); rfl) | ((with_reducible show ∀ _, _ = _); intro _; rfl) | ((with_reducible show ∀ _ _, _ = _); intro _ _; rfl) | ((with_reducible show ∀ _ _ _, _ = _); intro _ _ _; rfl) | (with_reducible refine' bt_val ?_ ?_))
                      case iffm =>
                        rintro ⟨loc, H'⟩ Q ⟨m, X, Y, hm, hX, hY, lm, l1, l2, hQ⟩
                        simp only at lm l1 l2
                        dsimp only
                        refine get_W lm ⟨by rw [mkS_len]; omega, ?_⟩
                        rw [mkS_len]
                        cases m with
                        | nil =>
                          rw [if_neg (by simp)]
                          exact hQ _ (SameBut.refl _ _) (by rw [post, List.append_nil]; exact l1) l2
                        | cons k r =>
                          simp only [List.length_cons] at hm
                          rw [if_pos (by simp)]
                          rw [ofS0, ofS1]
                          refine get_W l1 (bin_addS (by rw [mkS_len, mkS_len, sizeLine_eq]; simp only [List.length_cons, List.length_nil]; omega) ?_)
                          refine get_W (p := .str (mkS (k :: r))) (by simp only [Loc.set_apply, String.reduceEq, reduceIte, lm]) (bin_addS (by rw [mkS_len, mkS_len, sizeLine_eq]; simp only [List.length_cons, List.length_nil]; omega) ?_)
                          refine get_W (p := .str (mkS Y)) (by simp only [Loc.set_apply, String.reduceEq, reduceIte, l2]) ?_
                          rw [mkS_append, mkS_append]
                          refine bin_addS (by rw [mkS_len, mkS_len, sizeLine_eq, List.length_append]; simp only [List.length_cons, List.length_nil]; omega) ?_
                          rw [mkS_append]
                          exact hQ _ (((SameBut.refl _ _).set (by decide)).set (by decide)) (by simp only [Loc.set_apply, String.reduceEq, reduceIte]; rfl) (by simp only [Loc.set_apply, String.reduceEq, reduceIte]; rfl)
                    case tq7 =>
                      with_reducible refine' xs_cons ?sq8 ?tq8
                      case sq8 =>
                        repeat' (first | with_reducible exact ev_int _ _ _ | with_reducible exact ev_str _ _ _ | with_reducible exact ev_none _ _ | with_reducible exact ev_bool _ _ _ | (with_reducible refine' ev_name _ _ ?_ ?_) | (with_reducible refine' ev_binop ?_ ?_) | (with_reducible refine' ev_neg ?_) | (with_reducible refine' ev_cmp ?_ ?_ ?_) | (with_reducible refine' ev_ifexp ?_ ?_ ?_) | (with_reducible refine' ev_list ?_) | (with_reducible refine' ev_tuple ?_) | with_reducible exact es_nil | (with_reducible refine' es_cons ?_ ?_ ?_) | (with_reducible refine' ev_cut ?_ ?_ ?_) | (with_reducible refine' ev_idx ?_ ?_ ?_) | with_reducible exact pt_none | (with_reducible refine' pt_some ?_) | (with_reducible refine' bt_cmp ?_ ?_ ?_) | (with_reducible refine' bt_not ?_) | (with_reducible refine' bt_bool ?_) | with_reducible exact at_and_nil | with_reducible exact at_or_nil | (with_reducible refine' at_and_cons ?_ ?_) | (with_reducible refine' at_or_cons ?_ ?_) | with_reducible exact xs_nil | (with_reducible refine' xs_cons ?_ ?_) | (with_reducible refine' st_assign ?_ ?_ ?_) | (with_reducible refine' st_aug ?_ ?_ ?_) | (with_reducible refine' st_if ?_ ?_ ?_) | (with_reducible refine' st_append ?_ ?_ ?_ ?_ ?_ ?_) | (with_reducible refine' st_augidx ?_ ?_ ?_ ?_) | (with_reducible refine' st_ret ?_) | with_reducible exact st_ret0 | with_reducible exact st_cont | with_reducible exact st_pass | (with_reducible refine' st_while ?_ ?_) | (with_reducible refine' st_for ?_ (as_name ?_) ?_ ?_ ?_) | (with_reducible refine' ev_len (by assumption) ?_ ?_ ?_ ?_ ?_ ?_ ?_ ?_) | (with_reducible refine' ev_chr (by assumption) ?_ ?_ ?_ ?_ ?_ ?_ ?_ ?_) | (with_reducible refine' ev_range (by assumption) ?_ ?_ ?_ ?_ ?_ ?_ ?_ ?_) | (with_reducible refine' ev_abs (by assumption) ?_ ?_ ?_ ?_ ?_ ?_ ?_ ?_) | (with_reducible refine' ev_count _ ?_ ?_ ?_ ?_ ?_) | (with_reducible refine' ev_split _ ?_ ?_ ?_ ?_ ?_) | (with_reducible refine' ev_index _ ?_ ?_ ?_ ?_) | (with_reducible refine' ev_attr (C := 113) (by assumption) ?_ ?_ ?_ ?_ ?_ ?_) | with_reducible exact ts_nil | (with_reducible refine' ts_one ?_) | ((with_reducible show nsIn _ _ _ = _); k_is) | ((with_reducible show plainGet _ _ _ = _); k_is) | ((with_reducible show hasDictIn _ _ = _); k_is) | ((with_reducible show findIn _ _ _ = _); k_is) | ((with_reducible show noGet _ _ = _); k_is) | ((with_reducible show Stores _ _); first | exact Or.inl rfl | exact Or.inr ⟨rfl, rfl⟩) | ((with_reducible show (_ == _) = false); decide) | ((with_reducible show behindInMarks _ _ = _); with_unfolding_all rfl) | ((with_reducible show _ ≤ _); decide) | ((with_reducible show _ = _); rfl) | ((with_reducible show ∀ _, _ = _); intro _; rfl) | ((with_reducible show ∀ _ _, _ = _); intro _ _; rfl) | ((with_reducible show ∀ _ _ _, _ = _); intro _ _ _; rfl) | (with_reducible refine' bt_val ?_ ?_))
                      case tq8 =>
                        with_reducible refine' xs_cons ?sq9 ?tq9
                        case sq9 =>
                          refine' st_meth (C := 113) (f := 67) G ?m1 ?m2 ?m3 ?m4 ?m5 ?m6 (hop' _ _ _ G) ?m7 ?m8 ?m9 ?m10 ?m11
                          case m1 => repeat' (first | with_reducible exact ev_int _ _ _ | with_reducible exact ev_str _ _ _ | with_reducible exact ev_none _ _ | with_reducible exact ev_bool _ _ _ | (with_reducible refine' ev_name _ _ ?_ ?_) | (with_reducible refine' ev_binop ?_ ?_) | (with_reducible refine' ev_neg ?_) | (with_reducible refine' ev_cmp ?_ ?_ ?_) | (with_reducible refine' ev_ifexp ?_ ?_ ?_) | (with_reducible refine' ev_list ?_) | (with_reducible refine' ev_tuple ?_) | with_reducible exact es_nil | (with_reducible refine' es_cons ?_ ?_ ?_) | (with_reducible refine' ev_cut ?_ ?_ ?_) | (with_reducible refine' ev_idx ?_ ?_ ?_) | with_reducible exact pt_none | (with_reducible refine' pt_some ?_) | (with_reducible refine' bt_cmp ?_ ?_ ?_) | (with_reducible refine' bt_not ?_) | (with_reducible refine' bt_bool ?_) | with_reducible exact at_and_nil | with_reducible exact at_or_nil | (with_reducible refine' at_and_cons ?_ ?_) | (with_reducible refine' at_or_cons ?_ ?_) | with_reducible exact xs_nil | (with_reducible refine' xs_cons ?_ ?_) | (with_reducible refine' st_assign ?_ ?_ ?_) | (with_reducible refine' st_aug ?_ ?_ ?_) | (with_reducible refine' st_if ?_ ?_ ?_) | (with_reducible refine' st_append ?_ ?_ ?_ ?_ ?_ ?_) | (with_reducible refine' st_augidx ?_ ?_ ?_ ?_) | (with_reducible refine' st_ret ?_) | with_reducible exact st_ret0 | with_reducible exact st_cont | with_reducible exact st_pass | (with_reducible refine' st_while ?_ ?_) | (with_reducible refine' st_for ?_ (as_name ?_) ?_ ?_ ?_) | (with_reducible refine' ev_len (by assumption) ?_ ?_ ?_ ?_ ?_ ?_ ?_ ?_) | (with_reducible refine' ev_chr (by assumption) ?_ ?_ ?_ ?_ ?_ ?_ ?_ ?_) | (with_reducible refine' ev_range (by assumption) ?_ ?_ ?_ ?_ ?_ ?_ ?_ ?_) | (with_reducible refine' ev_abs (by assumption) ?_ ?_ ?_ ?_ ?_ ?_ ?_ ?_) | (with_reducible refine' ev_count _ ?_ ?_ ?_ ?_ ?_) | (with_reducible refine' ev_split _ ?_ ?_ ?_ ?_ ?_) | (with_reducible refine' ev_index _ ?_ ?_ ?_ ?_) | (with_reducible refine' ev_attr (C := 113) (by assumption) ?_ ?_ ?_ ?_ ?_ ?_) | with_reducible exact ts_nil | (with_reducible refine' ts_one ?_) | ((with_reducible show nsIn _ _ _ = _); k_is) | ((with_reducible show plainGet _ _ _ = _); k_is) | ((with_reducible show hasDictIn _ _ = _); k_is) | ((with_reducible show findIn _ _ _ = _); k_is) | ((with_reducible show noGet _ _ = _); k_is) | ((with_reducible show Stores _ _); first | exact Or.inl rfl | exact Or.inr ⟨rfl, rfl⟩) | ((with_reducible show (_ == _) = false); decide) | ((with_reducible show behindInMarks _ _ = _); with_unfolding_all rfl) | ((with_reducible show _ ≤ _); decide) | ((with_reducible show _ = _); rfl) | ((with_reducible show ∀ _, _ = _); intro _; rfl) | ((with_reducible show ∀ _ _, _ = _); intro _ _; rfl) | ((with_reducible show ∀ _ _ _, _ = _); intro _ _ _; rfl) | (with_reducible refine' bt_val ?_ ?_))
                          case m2 => repeat' (first | with_reducible exact ev_int _ _ _ | with_reducible exact ev_str _ _ _ | with_reducible exact ev_none _ _ | with_reducible exact ev_bool _ _ _ | (with_reducible refine' ev_name _ _ ?_ ?_) | (with_reducible refine' ev_binop ?_ ?_) | (with_reducible refine' ev_neg ?_) | (with_reducible refine' ev_cmp ?_ ?_ ?_) | (with_reducible refine' ev_ifexp ?_ ?_ ?_) | (with_reducible refine' ev_list ?_) | (with_reducible refine' ev_tuple ?_) | with_reducible exact es_nil | (with_reducible refine' es_cons ?_ ?_ ?_) | (with_reducible refine' ev_cut ?_ ?_ ?_) | (with_reducible refine' ev_idx ?_ ?_ ?_) | with_reducible exact pt_none | (with_reducible refine' pt_some ?_) | (with_reducible refine' bt_cmp ?_ ?_ ?_) | (with_reducible refine' bt_not ?_) | (with_reducible refine' bt_bool ?_) | with_reducible exact at_and_nil | with_reducible exact at_or_nil | (with_reducible refine' at_and_cons ?_ ?_) | (with_reducible refine' at_or_cons ?_ ?_) | with_reducible exact xs_nil | (with_reducible refine' xs_cons ?_ ?_) | (with_reducible refine' st_assign ?_ ?_ ?_) | (with_reducible refine' st_aug ?_ ?_ ?_) | (with_reducible refine' st_if ?_ ?_ ?_) | (with_reducible refine' st_append ?_ ?_ ?_ ?_ ?_ ?_) | (with_reducible refine' st_augidx ?_ ?_ ?_ ?_) | (with_reducible refine' st_ret ?_) | with_reducible exact st_ret0 | with_reducible exact st_cont | with_reducible exact st_pass | (with_reducible refine' st_while ?_ ?_) | (with_reducible refine' st_for ?_ (as_name ?_) ?_ ?_ ?_) | (with_reducible refine' ev_len (by assumption) ?_ ?_ ?_ ?_ ?_ ?_ ?_ ?_) | (with_reducible refine' ev_chr (by assumption) ?_ ?_ ?_ ?_ ?_ ?_ ?_ ?_) | (with_reducible refine' ev_range (by assumption) ?_ ?_ ?_ ?_ ?_ ?_ ?_ ?_) | (with_reducible refine' ev_abs (by assumption) ?_ ?_ ?_ ?_ ?_ ?_ ?_ ?_) | (with_reducible refine' ev_count _ ?_ ?_ ?_ ?_ ?_) | (with_reducible refine' ev_split _ ?_ ?_ ?_ ?_ ?_) | (with_reducible refine' ev_index _ ?_ ?_ ?_ ?_) | (with_reducible refine' ev_attr (C := 113) (by assumption) ?_ ?_ ?_ ?_ ?_ ?_) | with_reducible exact ts_nil | (with_reducible refine' ts_one ?_) | ((with_reducible show nsIn _ _ _ = _); k_is) | ((with_reducible show plainGet _ _ _ = _); k_is) | ((with_reducible show hasDictIn _ _ = _); k_is) | ((with_reducible show findIn _ _ _ = _); k_is) | ((with_reducible show noGet _ _ = _); k_is) | ((with_reducible show Stores _ _); first | exact Or.inl rfl | exact Or.inr ⟨rfl, rfl⟩) | ((with_reducible show (_ == _) = false); decide) | ((with_reducible show behindInMarks _ _ = _); with_unfolding_all rfl) | ((with_reducible show _ ≤ _); decide) | ((with_reducible show _ = _); rfl) | ((with_reducible show ∀ _, _ = _); intro _; rfl) | ((with_reducible show ∀ _ _, _ = _); intro _ _; rfl) | ((with_reducible show ∀ _ _ _, _ = _); intro _ _ _; rfl) | (with_reducible refine' bt_val ?_ ?_))
                          case m3 => k_is
                          case m4 => k_is
                          case m5 => k_is
                          case m6 => k_is
                          case m7 => rfl
                          case m8 => rfl
                          case m9 => rfl
                          case m10 => rfl
                          case m11 => rfl
                        case tq9 =>
                          repeat' (first | with_reducible exact ev_int _ _ _ | with_reducible exact ev_str _ _ _ | with_reducible exact ev_none _ _ | with_reducible exact ev_bool _ _ _ | (with_reducible refine' ev_name _ _ ?_ ?_) | (with_reducible refine' ev_binop ?_ ?_) | (with_reducible refine' ev_neg ?_) | (with_reducible refine' ev_cmp ?_ ?_ ?_) | (with_reducible refine' ev_ifexp ?_ ?_ ?_) | (with_reducible refine' ev_list ?_) | (with_reducible refine' ev_tuple ?_) | with_reducible exact es_nil | (with_reducible refine' es_cons ?_ ?_ ?_) | (with_reducible refine' ev_cut ?_ ?_ ?_) | (with_reducible refine' ev_idx ?_ ?_ ?_) | with_reducible exact pt_none | (with_reducible refine' pt_some ?_) | (with_reducible refine' bt_cmp ?_ ?_ ?_) | (with_reducible refine' bt_not ?_) | (with_reducible refine' bt_bool ?_) | with_reducible exact at_and_nil | with_reducible exact at_or_nil | (with_reducible refine' at_and_cons ?_ ?_) | (with_reducible refine' at_or_cons ?_ ?_) | with_reducible exact xs_nil | (with_reducible refine' xs_cons ?_ ?_) | (with_reducible refine' st_assign ?_ ?_ ?_) | (with_reducible refine' st_aug ?_ ?_ ?_) | (with_reducible refine' st_if ?_ ?_ ?_) | (with_reducible refine' st_append ?_ ?_ ?_ ?_ ?_ ?_) | (with_reducible refine' st_augidx ?_ ?_ ?_ ?_) | (with_reducible refine' st_ret ?_) | with_reducible exact st_ret0 | with_reducible exact st_cont | with_reducible exact st_pass | (with_reducible refine' st_while ?_ ?_) | (with_reducible refine' st_for ?_ (as_name ?_) ?_ ?_ ?_) | (with_reducible refine' ev_len (by assumption) ?_ ?_ ?_ ?_ ?_ ?_ ?_ ?_) | (with_reducible refine' ev_chr (by assumption) ?_ ?_ ?_ ?_ ?_ ?_ ?_ ?_) | (with_reducible refine' ev_range (by assumption) ?_ ?_ ?_ ?_ ?_ ?_ ?_ ?_) | (with_reducible refine' ev_abs (by assumption) ?_ ?_ ?_ ?_ ?_ ?_ ?_ ?_) | (with_reducible refine' ev_count _ ?_ ?_ ?_ ?_ ?_) | (with_reducible refine' ev_split _ ?_ ?_ ?_ ?_ ?_) | (with_reducible refine' ev_index _ ?_ ?_ ?_ ?_) | (with_reducible refine' ev_attr (C := 113) (by assumption) ?_ ?_ ?_ ?_ ?_ ?_) | with_reducible exact ts_nil | (with_reducible refine' ts_one ?_) | ((with_reducible show nsIn _ _ _ = _); k_is) | ((with_reducible show plainGet _ _ _ = _); k_is) | ((with_reducible show hasDictIn _ _ = _); k_is) | ((with_reducible show findIn _ _ _ = _); k_is) | ((with_reducible show noGet _ _ = _); k_is) | ((with_reducible show Stores _ _); first | exact Or.inl rfl | exact Or.inr ⟨rfl, rfl⟩) | ((with_reducible show (_ == _) = false); decide) | ((with_reducible show behindInMarks _ _ = _); with_unfolding_all rfl) | ((with_reducible show _ ≤ _); decide) | ((with_reducible show _ = _); rfl) | ((with_reducible show ∀ _, _ = _); intro _; rfl) | ((with_reducible show ∀ _ _, _ = _); intro _ _; rfl) | ((with_reducible show ∀ _ _ _, _ = _); intro _ _ _; rfl) | (with_reducible refine' bt_val ?_ ?_))
              case r2m =>
                rintro ⟨loc, H⟩ Q ⟨fs, a, xs, line, m, X, Y, hmo, hXY, hxs, hno, hH, lt, li, lm, lself, ld, ll, hW⟩
                simp only at hH lt li lm lself ld ll hW
                have hXY' := hXY
                rw [List.length_append] at hXY'
                dsimp only
                refine get_W lt (get_W li ⟨_, rfl, cut_S (by rw [mkS_len, sizeLine_eq]; omega) ?_⟩)
                rw [scut_mk, cut_hi, List.take_left]
                refine get_W (p := .str (mkS (X ++ Y))) (by simp only [Loc.set_apply, String.reduceEq, reduceIte, lt]) (get_W (p := .int (X.length : Nat)) (by simp only [Loc.set_apply, String.reduceEq, reduceIte, li]) ⟨_, rfl, cut_S (by rw [mkS_len, sizeLine_eq]; omega) ?_⟩)
                rw [scut_mk, cut_lo, List.drop_left]
                refine ⟨m, X, Y, hmo, by omega, by omega, by simp only [Loc.set_apply, String.reduceEq, reduceIte, lm], by simp only [Loc.set_apply, String.reduceEq, reduceIte], by simp only [Loc.set_apply, String.reduceEq, reduceIte], fun σ₂ hs2 k1 k2 => ?_⟩
                have ld2 := hs2.get (y := "data_list") (p := .ref a) (by decide) (by simp only [Loc.set_apply, String.reduceEq, reduceIte, ld])
                have ll2 := hs2.get (y := "line_num") (p := line) (by decide) (by simp only [Loc.set_apply, String.reduceEq, reduceIte, ll])
                have lself2 := hs2.get (y := "self") (p := .obj 113 fs) (by decide) (by simp only [Loc.set_apply, String.reduceEq, reduceIte, lself])
                have hH2 : σ₂.H = H := hs2.1
                clear hs2
                dsimp only
                rw [hH2]
                refine get_W ld2 ⟨a, _, rfl, hH, get_W ll2 (get_W k1 ⟨by rw [sizeLine_eq]; simp, xs, hH, by rw [sizeLine_eq]; omega, ?_⟩)⟩
                refine get_W lself2 ⟨fs, rfl, hno, get_W ld2 (get_W k2 ?_)⟩
                rw [ofSg]
                exact hmono _ _ _ _ (fun r H₃ h => ⟨h.1, h.2 _⟩) hW
    case r1m =>
      rintro ⟨loc, H⟩ Q ⟨fs, a, xs, line, T, wr, hv, hPT, hL, hxs, hno, hH, lt, ls, lx, lself, ld, ll, hW⟩
      simp only at hH lt ls lx lself ld ll hW
      dsimp only
      rw [ofSe]
      refine ⟨T, wr, hv, hPT, hL, by simp only [Loc.set_apply, String.reduceEq, reduceIte], by simp only [Loc.set_apply, String.reduceEq, reduceIte], by simp only [Loc.set_apply, String.reduceEq, reduceIte], by simp only [Loc.set_apply, String.reduceEq, reduceIte, lx], by simp only [Loc.set_apply, String.reduceEq, reduceIte, ls], by simp only [Loc.set_apply, String.reduceEq, reduceIte, lt], fun σ₁ hs hi hmk => ?_⟩
      have e : flat T = flat (cutA wr T) ++ flat (cutB wr T) := by rw [← flat_app, cut_app]
      refine ⟨fs, a, xs, line, mkF [] (cutA wr T), flat (cutA wr T), flat (cutB wr T), mkF_len [] _ (by simp), by rw [← e]; exact hL, hxs, hno, by rw [hs.1]; exact hH, ?_, hi, hmk, ?_, ?_, ?_, by rw [hs.1]; exact hW⟩
      · rw [← e]; exact hs.get (by decide) (by simp only [Loc.set_apply, String.reduceEq, reduceIte, lt])
      · exact hs.get (by decide) (by simp only [Loc.set_apply, String.reduceEq, reduceIte, lself])
      · exact hs.get (by decide) (by simp only [Loc.set_apply, String.reduceEq, reduceIte, ld])
      · exact hs.get (by decide) (by simp only [Loc.set_apply, String.reduceEq, reduceIte, ll])
  case hw =>
    clear S hv G
    intro Q hQ
    obtain ⟨fs, a, xs, line, t, m, B, wr, rfl, hwc, hno, hH, htr, hm, hPW, hcl, hvis, hlen, hw1, hw2, hxl, hQ⟩ := hQ
    refine ⟨rfl, ?_⟩
    have hAll := flat_preT m B hm
    have hPA := PW_preT m B hm hPW
    have hpl := pre_len m hm
    have hL : (pre m ++ flat B).length ≤ 902 := by rw [List.length_append]; omega
    dsimp only
    refine ⟨a, xs, line, _, t, by omega, htr, hH, rfl, rfl, rfl, fun ht => ?_, fun ht => ?_⟩
    · subst ht; exact hQ
    · subst ht
      rw [if_pos rfl] at hQ
      refine get_W (p := .str (mkS (pre m ++ flat B))) rfl (len_S (by rw [mkS_len]; omega) (get_W (p := .obj 113 fs) rfl ⟨fs, _, rfl, hwc, ?_⟩))
      rw [mkS_len]
      refine ⟨a, xs, line, preT m ++ B, wr, by omega, hPA, by rw [mkF_preT m B hm]; exact hcl, by rw [hAll]; exact hL, hH, rfl, rfl, by rw [hAll]; rfl, by rw [hAll]; rfl, rfl, fun hvw => ?_, fun hvw => ?_⟩
      · rw [vis_preT] at hvw
        rw [hAll]
        cases v with
        | zero => exact hQ
        | succ v => unfold pcs at hQ; rw [if_pos hvw] at hQ; exact hQ
      · rw [vis_preT] at hvw
        rcases hrec with hv0 | ⟨u, hvu, hWu⟩
        · omega
        subst hvu hWu
        unfold pcs at hQ
        rw [if_neg (by omega)] at hQ
        have hlB : (flat (cutB wr B)).length ≤ (flat B).length := by
          have h1 : (flat (cutA wr B ++ cutB wr B)).length = (flat B).length := by rw [cut_app]
          rw [flat_app, List.length_append] at h1; omega
        have hPAB : PW m (cutA wr B) ∧ PW (mkF m (cutA wr B)) (cutB wr B) := by rw [← PW_app, cut_app]; exact hPW
        have hclB : mkF (mkF m (cutA wr B)) (cutB wr B) = [] := by rw [← mkF_app, cut_app]; exact hcl
        have hvB := vis_cutB wr B (by omega)
        have hisM := mkF_isMk m _ hPAB.1 hm
        refine ⟨fs, a, xs, line, preT m ++ B, wr, by rw [vis_preT]; omega, hPA, by rw [hAll]; exact hL, by omega, hno, hH, by rw [hAll]; rfl, by rw [hAll]; rfl, rfl, rfl, rfl, rfl, ?_⟩
        rw [cutA_preT m B wr hw1, flat_preT m _ hm, mkF_preT m _ hm, cutB_preT m B wr hw1]
        refine ⟨fs, a, xs ++ [.tup [line, .str (mkS (pre m ++ flat (cutA wr B) ++ post (mkF m (cutA wr B))))]], .str (mkS [62]), true, mkF m (cutA wr B), cutB wr B, wr, rfl, hwc, hno, LH.set_self _ _ _, fun H R h => ⟨by rw [mkS_len]; decide, by rw [mkS_len]; exact h⟩, hisM, hPAB.2, hclB, by omega, by omega, hw1, hw2, by rw [List.length_append]; simp only [List.length_cons, List.length_nil]; omega, rfl, fun _ => ?_⟩
        rw [if_pos rfl, LH.set_set, List.append_assoc, rowsOf_gt]
        exact hQ
theorem split_line (w : World) : ∀ v, ∀ (h₀ : Heap) (prog : Program) (env : Env), Gr (hd09.heap_39 w.params) h₀ → ∀ loc Z H s ps vs, Sat h₀ Z env loc H s.heap → VRs Z ps vs → MOp h₀ prog w (8 + v + 1) env loc Z H s (call (.ref 67) vs) (SpW 113 v ps H)
  | 0 => split_gen w 8 0 (fun _ _ _ => False) (fun _ _ _ _ _ _ _ _ _ _ _ _ _ _ _ _ _ f _ => f.elim) (fun _ _ _ _ _ f => f) (.inl rfl)
  | v + 1 => split_gen w (8 + v + 1) (v + 1) (SpW 113 v) (split_line w v) (fun _ _ _ _ h f => SpW.mono h f) (.inr ⟨v, rfl, rfl⟩)
/-- x._split_line(..), a statement -/
theorem st_split (w : World) (v : Nat) {h₀ : Heap} {prog : Program} {n : Nat} {env : Env} {o : Expr} {apos p pos : Pos} {e : Expr} {rest : List Expr} {fo : ET} {F : EsT} {pl : Sem Bool} (G : Gr (hd09.heap_39 w.params) h₀) (hn : 8 + v + 1 ≤ n) (ho : EvOk h₀ prog w n env o fo) (hes : EsOk h₀ prog w n env (e :: rest) F)
    (hm : eval (.Call (.Attribute o (Str.ofString "_split_line") apos) (e :: rest) [] p) env = (do
      let ov ← eval o env
      standAt apos.atName
      let (f, first) ← holding [ov] (getMethod ov (Str.ofString "_split_line") pl)
      callWith p f first (backTo p (starEach (e :: rest) env)) []))
    (hs : starEach (e :: rest) env = (false, eval e env) :: starEach rest env) (hp : (backTo p (starEach rest env)).any (·.1) = false) (hi : interactive env = false) (hw : swapsWith (.Call (.Attribute o (Str.ofString "_split_line") apos) (e :: rest) [] p) none pos.line env = pure false) :
    ExOk h₀ prog w n env (.Expr (.Call (.Attribute o (Str.ofString "_split_line") apos) (e :: rest) [] p) pos)
      (fun σ Q => fo σ fun a H₁ => ∃ fs, a = .obj 113 fs ∧ fs.lookup "_split_line" = none ∧ F ⟨σ.loc, H₁⟩ fun ps H₂ => SpW 113 v (a :: ps) H₂ fun r H₃ => r = .none ∧ Q .next ⟨σ.loc, H₃⟩) := by
  refine' st_meth (C := 113) (f := 67) G ho hes ?m3 ?m4 ?m5 ?m6 (fun loc Z H s ps vs S hv A Q Q' E rm f q => split_line w v h₀ prog env G loc Z H s ps vs S hv A Q Q' E (rm.le hn) f q) hm hs hp hi hw
  case m3 => k_is
  case m4 => k_is
  case m5 => k_is
  case m6 => k_is
end Mine
namespace Mine
set_option maxHeartbeats 4000000 in
theorem html_make {w : World} {h₀ : Heap} {prog : Program} {env : Env} {A : Around} {Z : Zm} {loc : Loc} {H : LH} {s : Shared} {v1 v2 : Value} {Q' : Value → Shared → Prop} {E : Value → Shared → Prop} {n : Nat}
    (G : Gr (hd09.heap_39 w.params) h₀) (rm : Rm (n + 2) A) (S : Sat h₀ Z env loc H s.heap)
    (hq : ∀ x dx es k s', Kp s s' → s.heap.get? x = none → s.heap.get? dx = none → x ≠ dx → s'.heap.get? x = some (instObj 113 dx) → s'.heap.get? dx = some (dictOf es k) → (∃ h1 h2 h3 h4 t1 t2 t3 t4, es = [⟨h1, .str (Str.ofString "_tabsize") t1, v1⟩, ⟨h2, .str (Str.ofString "_wrapcolumn") t2, v2⟩, ⟨h3, .str (Str.ofString "_linejunk") t3, .none⟩, ⟨h4, .str (Str.ofString "_charjunk") t4, .ref 29⟩]) → Q' (.ref x) s') :
    wpAny (model prog w) A (call (.ref 113) [v1, v2]) Q' E s := by
  have X : (hd09.heap_39 w.params).In s.heap := G.X.keeps S.keep
  have NL := G.nl.keeps S.keep
  refine wpAny_call ?_
  obtain ⟨h, g, d, t, os⟩ := s
  refine make_core (makes_of X (by k_is)) (looks_findIn X (by k_is)) (fun self => bind_fn X self (by k_is)) (.inl rfl) ?_
  have k1 : ∀ b o, h.get? b = some o → ((h.push emptyDict).push (instObj 113 h.objs.size)).get? b = some o := fun b o e => Heap.get?_push_of_some _ (Heap.get?_push_of_some _ e)
  have X1 := X.keeps k1
  have hdx : ((h.push emptyDict).push (instObj 113 h.objs.size)).get? h.objs.size = some emptyDict := Heap.get?_push_of_some _ (Heap.get?_push_size _ rfl)
  have hx : ((h.push emptyDict).push (instObj 113 h.objs.size)).get? (h.objs.size + 1) = some (instObj 113 h.objs.size) := by
    have : (h.push emptyDict).objs.size = h.objs.size + 1 := Heap.size_push _ _
    rw [← this]; exact Heap.get?_push_size _ rfl
  generalize hH : (h.push emptyDict).push (instObj 113 h.objs.size) = H1 at *
  refine' enter_raw X1 (NL.keeps k1) ?ho ?hcd ?hco ?hgen ?hk ?hbind ?hcell ?hloc ?hroom (fun h₁ hns hk₁ => ?_)
  case ho => k_is
  case hcd => k_is
  case hbind => exact binds_K X1 rfl (by k_is) rfl rfl rfl
  case hcell => decide
  case hloc => exact locs rfl
  case hco => exact rfl
  case hgen => exact rfl
  case hk => exact rfl
  case hroom => simp only [depth_under_make]; have := rm.dp; omega
  have F : Fr h _ h₁ _ := ⟨hns, fun b o e => hk₁ _ _ (k1 _ _ e), by show h.objs.size ≤ H1.objs.size; exact Nat.le_of_lt (Nat.lt_of_le_of_lt (Nat.le_succ _) (Heap.lt_size hx))⟩
  have N : News h H1.objs.size h₁ [(h.objs.size + 1, instObj 113 h.objs.size), (h.objs.size, dictOf [] 0)] := by
    intro p hp
    rcases List.mem_cons.mp hp with rfl | hp
    · exact ⟨hk₁ _ _ hx, Nat.ne_of_lt (Heap.lt_size hx), Heap.get?_none_of_le (Nat.le_succ _)⟩
    · rcases List.mem_cons.mp hp with rfl | hp
      · exact ⟨hk₁ _ _ hdx, Nat.ne_of_lt (Heap.lt_size hdx), Heap.get?_none_of_le (Nat.le_refl _)⟩
      · cases hp
  have ne : h.objs.size + 1 ≠ h.objs.size := by omega
  have keep := F.keep
  clear hns hk₁
  iterate 4
    refine' init_store F X N ne ?hk ?hyl ?hym ?hyd ?hzl ?hzm ?hzd ?hs ?hp ?ht ?hh ?hl ?e ?hlen (fun h' hsh t tk F N => ?_) ?hsw
    case hk => exact rfl
    case hyl => exact rfl
    case hym => exact rfl
    case hyd => decide +kernel
    case hzl => exact rfl
    case hzm => exact rfl
    case hzd => decide +kernel
    case hs => k_is
    case hp => k_is
    case ht => k_is
    case hh => k_is
    case hl => exact rfl
    case e => exact fun _ _ => rfl
    case hlen => simp
    case hsw => exact rfl
    simp only [List.nil_append, List.cons_append, Nat.zero_add, Nat.reduceAdd] at N
  refine wpAny_execs_nil ?_
  refine ⟨rfl, ?_⟩
  refine hq (h.objs.size + 1) h.objs.size _ _ _ ⟨h', _, rfl, F.keep⟩ (Heap.get?_none_of_le (Nat.le_succ _)) (Heap.get?_none_of_le (Nat.le_refl _)) ne (N.get (.head _)) (N.get (.tail _ (.head _))) ⟨_, _, _, _, _, _, _, _, rfl⟩
theorem html_op {w : World} {h₀ : Heap} {prog : Program} {env : Env} {n : Nat} (G : Gr (hd09.heap_39 w.params) h₀) :
    ∀ (loc : Loc) (Z : Zm) (H : LH) (s : Shared) (ps : List PV) (vs : List Value), Sat h₀ Z env loc H s.heap → VRs Z ps vs → OpOk h₀ prog w (n + 2) env loc Z H s (call (.ref 113) vs)
      (fun Q => ∃ size wr : Int, ps = [.int size, .int wr] ∧ Q (.obj 113 [("_tabsize", .int size), ("_wrapcolumn", .int wr), ("_linejunk", .none), ("_charjunk", .raw (.ref 29))]) H) := by
  intro loc Z H s ps vs S hv A Q Q' E rm hW q
  obtain ⟨size, wr, rfl, hQ⟩ := hW
  cases hv with
  | cons a r =>
    cases r with
    | cons b r =>
    cases r
    cases b with
    | int _ t' =>
    cases a with
    | int _ t =>
      refine html_make G rm S fun x dx es k s' kp hx hdx hne ex edx hes => ?_
      obtain ⟨h1, h2, h3, h4, t1, t2, t3, t4, rfl⟩ := hes
      have k1 := Ke.frozen S kp hx ex
      have hZd : (Z.set x (instObj 113 dx)) dx = none := by
        unfold Zm.set; rw [if_neg (Ne.symm hne)]
        cases r : Z dx with
        | none => rfl
        | some o => have := S.frz dx o r; rw [hdx] at this; cases this
      have nl : ∀ o, s.heap.get? dx ≠ some o := fun o e => by rw [hdx] at e; cases e
      have S2 := k1.sat.addFrozen edx (fun e => by obtain ⟨o, eo⟩ := S.nsAt; rw [e] at eo; exact nl o eo) (fun m c hm e => by obtain ⟨_, _, o, eo, _⟩ := S.cellZ m c hm; rw [e] at eo; exact nl o eo) hZd (by
        cases r : H dx with
        | none => rfl
        | some l => obtain ⟨_, _, _, eo, _⟩ := S.obj dx l r; exact absurd eo (nl _))
      have hz := Zm.le_set (dictOf [⟨h1, .str (Str.ofString "_tabsize") t1, .int size t⟩, ⟨h2, .str (Str.ofString "_wrapcolumn") t2, .int wr t'⟩, ⟨h3, .str (Str.ofString "_linejunk") t3, .none⟩, ⟨h4, .str (Str.ofString "_charjunk") t4, .ref 29⟩] k) hZd
      refine q _ _ _ _ _ ⟨S2, kp, ⟨k1.fz.1.trans hz, fun a ha ha' => ?_⟩, FreshH.refl s H⟩ (.obj (hz _ _ (Zm.set_self _ _ _)) (Zm.set_self _ _ _) ?_) hQ
      · by_cases e : a = dx
        · rw [e]; exact hdx
        · refine k1.fz.2 a ha ?_
          unfold Zm.set at ha' ⊢
          rw [if_neg e] at ha'; exact ha'
      · exact .cons (.int _ _) rfl (.cons (.int _ _) rfl (.cons .none rfl (.cons (.raw _) rfl .nil)))
theorem ev_html {w : World} {h₀ : Heap} {prog : Program} {env : Env} {n : Nat} {p pos : Pos} {e : Expr} {rest : List Expr} {F : EsT} (G : Gr (hd09.heap_39 w.params) h₀) (hn : 2 ≤ n) (hx : env.kindOf (Str.ofString "HtmlDiff") = some .globalImplicit) (hg : env.globals = mainGlobals) (hes : EsOk h₀ prog w n env (e :: rest) F)
    (h5 : starEach (e :: rest) env = (false, eval e env) :: starEach rest env) (h6 : (backTo pos (starEach rest env)).any (·.1) = false)
    (h7 : eval (.Call (.Name (Str.ofString "HtmlDiff") p) (e :: rest) [] pos) env = (do callWith pos (← eval (.Name (Str.ofString "HtmlDiff") p) env) [] (backTo pos (starEach (e :: rest) env)) (backToKw pos (keywordEach [] env)))) :
    EvOk h₀ prog w n env (.Call (.Name (Str.ofString "HtmlDiff") p) (e :: rest) [] pos) (fun σ Q => F σ fun ps H₁ => ∃ size wr : Int, ps = [.int size, .int wr] ∧ Q (.obj 113 [("_tabsize", .int size), ("_wrapcolumn", .int wr), ("_linejunk", .none), ("_charjunk", .raw (.ref 29))]) H₁) := by
  refine' ev_call (fv := .ref 113) (W := fun ps H₁ Q => ∃ size wr : Int, ps = [.int size, .int wr] ∧ Q (.obj 113 [("_tabsize", .int size), ("_wrapcolumn", .int wr), ("_linejunk", .none), ("_charjunk", .raw (.ref 29))]) H₁) (nm_glob G ?hn hx hg ?hd) (kpr_K G ?kk) hes (fun loc Z H s ps vs S hv A Q Q' E rm f q => html_op (n := 0) G loc Z H s ps vs S hv A Q Q' E (rm.le hn) f q) h5 h6 h7
  case hn => k_is
  case hd => decide
  case kk => k_is
end Mine
namespace Mine
def Post09 : Fl → St → Prop := fun fl _ => fl = .ret (.bool true)
def RsL (σ : St) (Q : Fl → St → Prop) : Prop :=
  ∃ (T : List Tk) (wr : Nat) (number : Int) (a b : Addr), PW [] T ∧ mkF [] T = [] ∧ (flat T).length ≤ 250 ∧ vis T ≤ 61 ∧ (∀ c ∈ flat T, c < 128) ∧ 1 ≤ wr ∧ wr ≤ 9 ∧ a ≠ b ∧ σ.H a = some ⟨true, []⟩ ∧ σ.H b = some ⟨true, []⟩ ∧ σ.loc "number" = some (.int number) ∧ σ.loc "told" = some (.ref a) ∧ σ.loc "due" = some (.ref b) ∧ σ.loc "text" = some (.str (mkS (flat T))) ∧ σ.loc "wrap" = some (.int (wr : Int)) ∧
    σ.loc "page" = some (.obj 113 [("_tabsize", .int 8), ("_wrapcolumn", .int (wr : Int)), ("_linejunk", .none), ("_charjunk", .raw (.ref 29))]) ∧ ∀ σ', Q (.ret (.bool true)) σ'
theorem law09 : PySem.Challenge.rw_dm0063_09.Holds := hd09 (by
  k_go0
  rename Frag.In _ _ => X'
  rename Top _ _ _ _ _ _ => T'
  rename Fr _ _ _ _ => F'
  rename Well _ _ _ _ => W1
  rename IntsAre _ _ => hI
  rename World => w
  rename ¬ _ < _ => hcond
  cases W1 with
  | list eA wA =>
    have G : Gr (hd09.heap_39 w.params) _ := ⟨X', ⟨_, T'.g⟩, ⟨_, T'.b, T'.builtins⟩, T'.nolimit⟩
    have hI' := ints_of_well wA
    clear wA
    obtain ⟨Fm, hFm, hmk⟩ := marked_fn w
    obtain ⟨Fp, hFp, hpc⟩ := pieces_fn w
    refine' XsOk.use (n := 80) (Q := Post09) ?hX ?rm ?S0 ?pre ?post
    case S0 =>
      refine' start_ok F' ?k1 ?k2 ?k3 ?k4 ?k5 eA hI'
      case k1 => rfl
      case k2 => intro n c hm; cases hm
      case k3 => exact List.nodup_nil
      case k4 => rfl
      case k5 => rfl
    case rm => exact ⟨rfl, (by decide : callerA.depth + 1 + 80 < recursionLimit), (by decide : callerA.units + 3 + 80 + 8 * 80 < cLine)⟩
    case hX =>
      with_reducible refine' xs_cons ?sw0 ?tw0
      case sw0 =>
        repeat' (first | with_reducible exact ev_int _ _ _ | with_reducible exact ev_str _ _ _ | with_reducible exact ev_none _ _ | with_reducible exact ev_bool _ _ _ | (with_reducible refine' ev_name _ _ ?_ ?_) | (with_reducible refine' ev_binop ?_ ?_) | (with_reducible refine' ev_neg ?_) | (with_reducible refine' ev_cmp ?_ ?_ ?_) | (with_reducible refine' ev_ifexp ?_ ?_ ?_) | (with_reducible refine' ev_list ?_) | (with_reducible refine' ev_tuple ?_) | with_reducible exact es_nil | (with_reducible refine' es_cons ?_ ?_ ?_) | (with_reducible refine' ev_cut ?_ ?_ ?_) | (with_reducible refine' ev_idx ?_ ?_ ?_) | with_reducible exact pt_none | (with_reducible refine' pt_some ?_) | (with_reducible refine' bt_cmp ?_ ?_ ?_) | (with_reducible refine' bt_not ?_) | (with_reducible refine' bt_bool ?_) | with_reducible exact at_and_nil | with_reducible exact at_or_nil | (with_reducible refine' at_and_cons ?_ ?_) | (with_reducible refine' at_or_cons ?_ ?_) | with_reducible exact xs_nil | (with_reducible refine' xs_cons ?_ ?_) | (with_reducible refine' st_assign ?_ ?_ ?_) | (with_reducible refine' st_aug ?_ ?_ ?_) | (with_reducible refine' st_if ?_ ?_ ?_) | (with_reducible refine' st_append ?_ ?_ ?_ ?_ ?_ ?_) | (with_reducible refine' st_augidx ?_ ?_ ?_ ?_) | (with_reducible refine' st_ret ?_) | with_reducible exact st_ret0 | with_reducible exact st_cont | with_reducible exact st_pass | (with_reducible refine' st_while ?_ ?_) | (with_reducible refine' st_for ?_ (as_name ?_) ?_ ?_ ?_) | (with_reducible refine' ev_len (by assumption) ?_ ?_ ?_ ?_ ?_ ?_ ?_ ?_) | (with_reducible refine' ev_chr (by assumption) ?_ ?_ ?_ ?_ ?_ ?_ ?_ ?_) | (with_reducible refine' ev_range (by assumption) ?_ ?_ ?_ ?_ ?_ ?_ ?_ ?_) | (with_reducible refine' ev_abs (by assumption) ?_ ?_ ?_ ?_ ?_ ?_ ?_ ?_) | (with_reducible refine' ev_count _ ?_ ?_ ?_ ?_ ?_) | (with_reducible refine' ev_split _ ?_ ?_ ?_ ?_ ?_) | (with_reducible refine' ev_index _ ?_ ?_ ?_ ?_) | (with_reducible refine' ev_attr (C := 113) (by assumption) ?_ ?_ ?_ ?_ ?_ ?_) | (with_reducible refine' ev_fn (x := Str.ofString "_law_marked") (f := 124) (by assumption) (by assumption) ?_ ?_ ?_ ?_ ?_ ?_ ?_ ?_ ?_) | (with_reducible refine' ev_fn (x := Str.ofString "_law_pieces") (f := 136) (by assumption) (by assumption) ?_ ?_ ?_ ?_ ?_ ?_ ?_ ?_ ?_) | (with_reducible refine' ev_html (by assumption) ?_ ?_ ?_ ?_ ?_ ?_ ?_) | (with_reducible refine' st_split _ 61 (by assumption) ?_ ?_ ?_ ?_ ?_ ?_ ?_ ?_) | (with_reducible refine' st_swap2 (x := _) (y := _) ?_ ?_ ?_ ?_ ?_) | with_reducible exact ts_nil | (with_reducible refine' ts_one ?_) | ((with_reducible show nsIn _ _ _ = _); k_is) | ((with_reducible show plainGet _ _ _ = _); k_is) | ((with_reducible show hasDictIn _ _ = _); k_is) | ((with_reducible show findIn _ _ _ = _); k_is) | ((with_reducible show noGet _ _ = _); k_is) | ((with_reducible show Stores _ _); first | exact Or.inl rfl | exact Or.inr ⟨rfl, rfl⟩) | ((with_reducible show (_ == _) = false); decide) | ((with_reducible show behindInMarks _ _ = _); with_unfolding_all rfl) | ((with_reducible show _ ≤ _); decide) | ((with_reducible show _ = _); rfl) | ((with_reducible show ∀ _, _ = _); intro _; rfl) | ((with_reducible show ∀ _ _, _ = _); intro _ _; rfl) | ((with_reducible show ∀ _ _ _, _ = _); intro _ _ _; rfl) | (with_reducible refine' bt_val ?_ ?_))
      case tw0 =>
        with_reducible refine' xs_cons ?sw1 ?tw1
        case sw1 =>
          repeat' (first | with_reducible exact ev_int _ _ _ | with_reducible exact ev_str _ _ _ | with_reducible exact ev_none _ _ | with_reducible exact ev_bool _ _ _ | (with_reducible refine' ev_name _ _ ?_ ?_) | (with_reducible refine' ev_binop ?_ ?_) | (with_reducible refine' ev_neg ?_) | (with_reducible refine' ev_cmp ?_ ?_ ?_) | (with_reducible refine' ev_ifexp ?_ ?_ ?_) | (with_reducible refine' ev_list ?_) | (with_reducible refine' ev_tuple ?_) | with_reducible exact es_nil | (with_reducible refine' es_cons ?_ ?_ ?_) | (with_reducible refine' ev_cut ?_ ?_ ?_) | (with_reducible refine' ev_idx ?_ ?_ ?_) | with_reducible exact pt_none | (with_reducible refine' pt_some ?_) | (with_reducible refine' bt_cmp ?_ ?_ ?_) | (with_reducible refine' bt_not ?_) | (with_reducible refine' bt_bool ?_) | with_reducible exact at_and_nil | with_reducible exact at_or_nil | (with_reducible refine' at_and_cons ?_ ?_) | (with_reducible refine' at_or_cons ?_ ?_) | with_reducible exact xs_nil | (with_reducible refine' xs_cons ?_ ?_) | (with_reducible refine' st_assign ?_ ?_ ?_) | (with_reducible refine' st_aug ?_ ?_ ?_) | (with_reducible refine' st_if ?_ ?_ ?_) | (with_reducible refine' st_append ?_ ?_ ?_ ?_ ?_ ?_) | (with_reducible refine' st_augidx ?_ ?_ ?_ ?_) | (with_reducible refine' st_ret ?_) | with_reducible exact st_ret0 | with_reducible exact st_cont | with_reducible exact st_pass | (with_reducible refine' st_while ?_ ?_) | (with_reducible refine' st_for ?_ (as_name ?_) ?_ ?_ ?_) | (with_reducible refine' ev_len (by assumption) ?_ ?_ ?_ ?_ ?_ ?_ ?_ ?_) | (with_reducible refine' ev_chr (by assumption) ?_ ?_ ?_ ?_ ?_ ?_ ?_ ?_) | (with_reducible refine' ev_range (by assumption) ?_ ?_ ?_ ?_ ?_ ?_ ?_ ?_) | (with_reducible refine' ev_abs (by assumption) ?_ ?_ ?_ ?_ ?_ ?_ ?_ ?_) | (with_reducible refine' ev_count _ ?_ ?_ ?_ ?_ ?_) | (with_reducible refine' ev_split _ ?_ ?_ ?_ ?_ ?_) | (with_reducible refine' ev_index _ ?_ ?_ ?_ ?_) | (with_reducible refine' ev_attr (C := 113) (by assumption) ?_ ?_ ?_ ?_ ?_ ?_) | (with_reducible refine' ev_fn (x := Str.ofString "_law_marked") (f := 124) (by assumption) (by assumption) ?_ ?_ ?_ ?_ ?_ ?_ ?_ ?_ ?_) | (with_reducible refine' ev_fn (x := Str.ofString "_law_pieces") (f := 136) (by assumption) (by assumption) ?_ ?_ ?_ ?_ ?_ ?_ ?_ ?_ ?_) | (with_reducible refine' ev_html (by assumption) ?_ ?_ ?_ ?_ ?_ ?_ ?_) | (with_reducible refine' st_split _ 61 (by assumption) ?_ ?_ ?_ ?_ ?_ ?_ ?_ ?_) | (with_reducible refine' st_swap2 (x := _) (y := _) ?_ ?_ ?_ ?_ ?_) | with_reducible exact ts_nil | (with_reducible refine' ts_one ?_) | ((with_reducible show nsIn _ _ _ = _); k_is) | ((with_reducible show plainGet _ _ _ = _); k_is) | ((with_reducible show hasDictIn _ _ = _); k_is) | ((with_reducible show findIn _ _ _ = _); k_is) | ((with_reducible show noGet _ _ = _); k_is) | ((with_reducible show Stores _ _); first | exact Or.inl rfl | exact Or.inr ⟨rfl, rfl⟩) | ((with_reducible show (_ == _) = false); decide) | ((with_reducible show behindInMarks _ _ = _); with_unfolding_all rfl) | ((with_reducible show _ ≤ _); decide) | ((with_reducible show _ = _); rfl) | ((with_reducible show ∀ _, _ = _); intro _; rfl) | ((with_reducible show ∀ _ _, _ = _); intro _ _; rfl) | ((with_reducible show ∀ _ _ _, _ = _); intro _ _ _; rfl) | (with_reducible refine' bt_val ?_ ?_))
        case tw1 =>
          with_reducible refine' xs_cons ?sw2 ?tw2
          case sw2 =>
            repeat' (first | with_reducible exact ev_int _ _ _ | with_reducible exact ev_str _ _ _ | with_reducible exact ev_none _ _ | with_reducible exact ev_bool _ _ _ | (with_reducible refine' ev_name _ _ ?_ ?_) | (with_reducible refine' ev_binop ?_ ?_) | (with_reducible refine' ev_neg ?_) | (with_reducible refine' ev_cmp ?_ ?_ ?_) | (with_reducible refine' ev_ifexp ?_ ?_ ?_) | (with_reducible refine' ev_list ?_) | (with_reducible refine' ev_tuple ?_) | with_reducible exact es_nil | (with_reducible refine' es_cons ?_ ?_ ?_) | (with_reducible refine' ev_cut ?_ ?_ ?_) | (with_reducible refine' ev_idx ?_ ?_ ?_) | with_reducible exact pt_none | (with_reducible refine' pt_some ?_) | (with_reducible refine' bt_cmp ?_ ?_ ?_) | (with_reducible refine' bt_not ?_) | (with_reducible refine' bt_bool ?_) | with_reducible exact at_and_nil | with_reducible exact at_or_nil | (with_reducible refine' at_and_cons ?_ ?_) | (with_reducible refine' at_or_cons ?_ ?_) | with_reducible exact xs_nil | (with_reducible refine' xs_cons ?_ ?_) | (with_reducible refine' st_assign ?_ ?_ ?_) | (with_reducible refine' st_aug ?_ ?_ ?_) | (with_reducible refine' st_if ?_ ?_ ?_) | (with_reducible refine' st_append ?_ ?_ ?_ ?_ ?_ ?_) | (with_reducible refine' st_augidx ?_ ?_ ?_ ?_) | (with_reducible refine' st_ret ?_) | with_reducible exact st_ret0 | with_reducible exact st_cont | with_reducible exact st_pass | (with_reducible refine' st_while ?_ ?_) | (with_reducible refine' st_for ?_ (as_name ?_) ?_ ?_ ?_) | (with_reducible refine' ev_len (by assumption) ?_ ?_ ?_ ?_ ?_ ?_ ?_ ?_) | (with_reducible refine' ev_chr (by assumption) ?_ ?_ ?_ ?_ ?_ ?_ ?_ ?_) | (with_reducible refine' ev_range (by assumption) ?_ ?_ ?_ ?_ ?_ ?_ ?_ ?_) | (with_reducible refine' ev_abs (by assumption) ?_ ?_ ?_ ?_ ?_ ?_ ?_ ?_) | (with_reducible refine' ev_count _ ?_ ?_ ?_ ?_ ?_) | (with_reducible refine' ev_split _ ?_ ?_ ?_ ?_ ?_) | (with_reducible refine' ev_index _ ?_ ?_ ?_ ?_) | (with_reducible refine' ev_attr (C := 113) (by assumption) ?_ ?_ ?_ ?_ ?_ ?_) | (with_reducible refine' ev_fn (x := Str.ofString "_law_marked") (f := 124) (by assumption) (by assumption) ?_ ?_ ?_ ?_ ?_ ?_ ?_ ?_ ?_) | (with_reducible refine' ev_fn (x := Str.ofString "_law_pieces") (f := 136) (by assumption) (by assumption) ?_ ?_ ?_ ?_ ?_ ?_ ?_ ?_ ?_) | (with_reducible refine' ev_html (by assumption) ?_ ?_ ?_ ?_ ?_ ?_ ?_) | (with_reducible refine' st_split _ 61 (by assumption) ?_ ?_ ?_ ?_ ?_ ?_ ?_ ?_) | (with_reducible refine' st_swap2 (x := _) (y := _) ?_ ?_ ?_ ?_ ?_) | with_reducible exact ts_nil | (with_reducible refine' ts_one ?_) | ((with_reducible show nsIn _ _ _ = _); k_is) | ((with_reducible show plainGet _ _ _ = _); k_is) | ((with_reducible show hasDictIn _ _ = _); k_is) | ((with_reducible show findIn _ _ _ = _); k_is) | ((with_reducible show noGet _ _ = _); k_is) | ((with_reducible show Stores _ _); first | exact Or.inl rfl | exact Or.inr ⟨rfl, rfl⟩) | ((with_reducible show (_ == _) = false); decide) | ((with_reducible show behindInMarks _ _ = _); with_unfolding_all rfl) | ((with_reducible show _ ≤ _); decide) | ((with_reducible show _ = _); rfl) | ((with_reducible show ∀ _, _ = _); intro _; rfl) | ((with_reducible show ∀ _ _, _ = _); intro _ _; rfl) | ((with_reducible show ∀ _ _ _, _ = _); intro _ _ _; rfl) | (with_reducible refine' bt_val ?_ ?_))
          case tw2 =>
            with_reducible refine' xs_cons ?sw3 ?tw3
            case sw3 =>
              repeat' (first | with_reducible exact ev_int _ _ _ | with_reducible exact ev_str _ _ _ | with_reducible exact ev_none _ _ | with_reducible exact ev_bool _ _ _ | (with_reducible refine' ev_name _ _ ?_ ?_) | (with_reducible refine' ev_binop ?_ ?_) | (with_reducible refine' ev_neg ?_) | (with_reducible refine' ev_cmp ?_ ?_ ?_) | (with_reducible refine' ev_ifexp ?_ ?_ ?_) | (with_reducible refine' ev_list ?_) | (with_reducible refine' ev_tuple ?_) | with_reducible exact es_nil | (with_reducible refine' es_cons ?_ ?_ ?_) | (with_reducible refine' ev_cut ?_ ?_ ?_) | (with_reducible refine' ev_idx ?_ ?_ ?_) | with_reducible exact pt_none | (with_reducible refine' pt_some ?_) | (with_reducible refine' bt_cmp ?_ ?_ ?_) | (with_reducible refine' bt_not ?_) | (with_reducible refine' bt_bool ?_) | with_reducible exact at_and_nil | with_reducible exact at_or_nil | (with_reducible refine' at_and_cons ?_ ?_) | (with_reducible refine' at_or_cons ?_ ?_) | with_reducible exact xs_nil | (with_reducible refine' xs_cons ?_ ?_) | (with_reducible refine' st_assign ?_ ?_ ?_) | (with_reducible refine' st_aug ?_ ?_ ?_) | (with_reducible refine' st_if ?_ ?_ ?_) | (with_reducible refine' st_append ?_ ?_ ?_ ?_ ?_ ?_) | (with_reducible refine' st_augidx ?_ ?_ ?_ ?_) | (with_reducible refine' st_ret ?_) | with_reducible exact st_ret0 | with_reducible exact st_cont | with_reducible exact st_pass | (with_reducible refine' st_while ?_ ?_) | (with_reducible refine' st_for ?_ (as_name ?_) ?_ ?_ ?_) | (with_reducible refine' ev_len (by assumption) ?_ ?_ ?_ ?_ ?_ ?_ ?_ ?_) | (with_reducible refine' ev_chr (by assumption) ?_ ?_ ?_ ?_ ?_ ?_ ?_ ?_) | (with_reducible refine' ev_range (by assumption) ?_ ?_ ?_ ?_ ?_ ?_ ?_ ?_) | (with_reducible refine' ev_abs (by assumption) ?_ ?_ ?_ ?_ ?_ ?_ ?_ ?_) | (with_reducible refine' ev_count _ ?_ ?_ ?_ ?_ ?_) | (with_reducible refine' ev_split _ ?_ ?_ ?_ ?_ ?_) | (with_reducible refine' ev_index _ ?_ ?_ ?_ ?_) | (with_reducible refine' ev_attr (C := 113) (by assumption) ?_ ?_ ?_ ?_ ?_ ?_) | (with_reducible refine' ev_fn (x := Str.ofString "_law_marked") (f := 124) (by assumption) (by assumption) ?_ ?_ ?_ ?_ ?_ ?_ ?_ ?_ ?_) | (with_reducible refine' ev_fn (x := Str.ofString "_law_pieces") (f := 136) (by assumption) (by assumption) ?_ ?_ ?_ ?_ ?_ ?_ ?_ ?_ ?_) | (with_reducible refine' ev_html (by assumption) ?_ ?_ ?_ ?_ ?_ ?_ ?_) | (with_reducible refine' st_split _ 61 (by assumption) ?_ ?_ ?_ ?_ ?_ ?_ ?_ ?_) | (with_reducible refine' st_swap2 (x := _) (y := _) ?_ ?_ ?_ ?_ ?_) | with_reducible exact ts_nil | (with_reducible refine' ts_one ?_) | ((with_reducible show nsIn _ _ _ = _); k_is) | ((with_reducible show plainGet _ _ _ = _); k_is) | ((with_reducible show hasDictIn _ _ = _); k_is) | ((with_reducible show findIn _ _ _ = _); k_is) | ((with_reducible show noGet _ _ = _); k_is) | ((with_reducible show Stores _ _); first | exact Or.inl rfl | exact Or.inr ⟨rfl, rfl⟩) | ((with_reducible show (_ == _) = false); decide) | ((with_reducible show behindInMarks _ _ = _); with_unfolding_all rfl) | ((with_reducible show _ ≤ _); decide) | ((with_reducible show _ = _); rfl) | ((with_reducible show ∀ _, _ = _); intro _; rfl) | ((with_reducible show ∀ _ _, _ = _); intro _ _; rfl) | ((with_reducible show ∀ _ _ _, _ = _); intro _ _ _; rfl) | (with_reducible refine' bt_val ?_ ?_))
            case tw3 =>
              with_reducible refine' xs_cons ?sw4 ?tw4
              case sw4 =>
                repeat' (first | with_reducible exact ev_int _ _ _ | with_reducible exact ev_str _ _ _ | with_reducible exact ev_none _ _ | with_reducible exact ev_bool _ _ _ | (with_reducible refine' ev_name _ _ ?_ ?_) | (with_reducible refine' ev_binop ?_ ?_) | (with_reducible refine' ev_neg ?_) | (with_reducible refine' ev_cmp ?_ ?_ ?_) | (with_reducible refine' ev_ifexp ?_ ?_ ?_) | (with_reducible refine' ev_list ?_) | (with_reducible refine' ev_tuple ?_) | with_reducible exact es_nil | (with_reducible refine' es_cons ?_ ?_ ?_) | (with_reducible refine' ev_cut ?_ ?_ ?_) | (with_reducible refine' ev_idx ?_ ?_ ?_) | with_reducible exact pt_none | (with_reducible refine' pt_some ?_) | (with_reducible refine' bt_cmp ?_ ?_ ?_) | (with_reducible refine' bt_not ?_) | (with_reducible refine' bt_bool ?_) | with_reducible exact at_and_nil | with_reducible exact at_or_nil | (with_reducible refine' at_and_cons ?_ ?_) | (with_reducible refine' at_or_cons ?_ ?_) | with_reducible exact xs_nil | (with_reducible refine' xs_cons ?_ ?_) | (with_reducible refine' st_assign ?_ ?_ ?_) | (with_reducible refine' st_aug ?_ ?_ ?_) | (with_reducible refine' st_if ?_ ?_ ?_) | (with_reducible refine' st_append ?_ ?_ ?_ ?_ ?_ ?_) | (with_reducible refine' st_augidx ?_ ?_ ?_ ?_) | (with_reducible refine' st_ret ?_) | with_reducible exact st_ret0 | with_reducible exact st_cont | with_reducible exact st_pass | (with_reducible refine' st_while ?_ ?_) | (with_reducible refine' st_for ?_ (as_name ?_) ?_ ?_ ?_) | (with_reducible refine' ev_len (by assumption) ?_ ?_ ?_ ?_ ?_ ?_ ?_ ?_) | (with_reducible refine' ev_chr (by assumption) ?_ ?_ ?_ ?_ ?_ ?_ ?_ ?_) | (with_reducible refine' ev_range (by assumption) ?_ ?_ ?_ ?_ ?_ ?_ ?_ ?_) | (with_reducible refine' ev_abs (by assumption) ?_ ?_ ?_ ?_ ?_ ?_ ?_ ?_) | (with_reducible refine' ev_count _ ?_ ?_ ?_ ?_ ?_) | (with_reducible refine' ev_split _ ?_ ?_ ?_ ?_ ?_) | (with_reducible refine' ev_index _ ?_ ?_ ?_ ?_) | (with_reducible refine' ev_attr (C := 113) (by assumption) ?_ ?_ ?_ ?_ ?_ ?_) | (with_reducible refine' ev_fn (x := Str.ofString "_law_marked") (f := 124) (by assumption) (by assumption) ?_ ?_ ?_ ?_ ?_ ?_ ?_ ?_ ?_) | (with_reducible refine' ev_fn (x := Str.ofString "_law_pieces") (f := 136) (by assumption) (by assumption) ?_ ?_ ?_ ?_ ?_ ?_ ?_ ?_ ?_) | (with_reducible refine' ev_html (by assumption) ?_ ?_ ?_ ?_ ?_ ?_ ?_) | (with_reducible refine' st_split _ 61 (by assumption) ?_ ?_ ?_ ?_ ?_ ?_ ?_ ?_) | (with_reducible refine' st_swap2 (x := _) (y := _) ?_ ?_ ?_ ?_ ?_) | with_reducible exact ts_nil | (with_reducible refine' ts_one ?_) | ((with_reducible show nsIn _ _ _ = _); k_is) | ((with_reducible show plainGet _ _ _ = _); k_is) | ((with_reducible show hasDictIn _ _ = _); k_is) | ((with_reducible show findIn _ _ _ = _); k_is) | ((with_reducible show noGet _ _ = _); k_is) | ((with_reducible show Stores _ _); first | exact Or.inl rfl | exact Or.inr ⟨rfl, rfl⟩) | ((with_reducible show (_ == _) = false); decide) | ((with_reducible show behindInMarks _ _ = _); with_unfolding_all rfl) | ((with_reducible show _ ≤ _); decide) | ((with_reducible show _ = _); rfl) | ((with_reducible show ∀ _, _ = _); intro _; rfl) | ((with_reducible show ∀ _ _, _ = _); intro _ _; rfl) | ((with_reducible show ∀ _ _ _, _ = _); intro _ _ _; rfl) | (with_reducible refine' bt_val ?_ ?_))
              case tw4 =>
                with_reducible refine' xs_cons ?sw5 ?tw5
                case sw5 =>
                  repeat' (first | with_reducible exact ev_int _ _ _ | with_reducible exact ev_str _ _ _ | with_reducible exact ev_none _ _ | with_reducible exact ev_bool _ _ _ | (with_reducible refine' ev_name _ _ ?_ ?_) | (with_reducible refine' ev_binop ?_ ?_) | (with_reducible refine' ev_neg ?_) | (with_reducible refine' ev_cmp ?_ ?_ ?_) | (with_reducible refine' ev_ifexp ?_ ?_ ?_) | (with_reducible refine' ev_list ?_) | (with_reducible refine' ev_tuple ?_) | with_reducible exact es_nil | (with_reducible refine' es_cons ?_ ?_ ?_) | (with_reducible refine' ev_cut ?_ ?_ ?_) | (with_reducible refine' ev_idx ?_ ?_ ?_) | with_reducible exact pt_none | (with_reducible refine' pt_some ?_) | (with_reducible refine' bt_cmp ?_ ?_ ?_) | (with_reducible refine' bt_not ?_) | (with_reducible refine' bt_bool ?_) | with_reducible exact at_and_nil | with_reducible exact at_or_nil | (with_reducible refine' at_and_cons ?_ ?_) | (with_reducible refine' at_or_cons ?_ ?_) | with_reducible exact xs_nil | (with_reducible refine' xs_cons ?_ ?_) | (with_reducible refine' st_assign ?_ ?_ ?_) | (with_reducible refine' st_aug ?_ ?_ ?_) | (with_reducible refine' st_if ?_ ?_ ?_) | (with_reducible refine' st_append ?_ ?_ ?_ ?_ ?_ ?_) | (with_reducible refine' st_augidx ?_ ?_ ?_ ?_) | (with_reducible refine' st_ret ?_) | with_reducible exact st_ret0 | with_reducible exact st_cont | with_reducible exact st_pass | (with_reducible refine' st_while ?_ ?_) | (with_reducible refine' st_for ?_ (as_name ?_) ?_ ?_ ?_) | (with_reducible refine' ev_len (by assumption) ?_ ?_ ?_ ?_ ?_ ?_ ?_ ?_) | (with_reducible refine' ev_chr (by assumption) ?_ ?_ ?_ ?_ ?_ ?_ ?_ ?_) | (with_reducible refine' ev_range (by assumption) ?_ ?_ ?_ ?_ ?_ ?_ ?_ ?_) | (with_reducible refine' ev_abs (by assumption) ?_ ?_ ?_ ?_ ?_ ?_ ?_ ?_) | (with_reducible refine' ev_count _ ?_ ?_ ?_ ?_ ?_) | (with_reducible refine' ev_split _ ?_ ?_ ?_ ?_ ?_) | (with_reducible refine' ev_index _ ?_ ?_ ?_ ?_) | (with_reducible refine' ev_attr (C := 113) (by assumption) ?_ ?_ ?_ ?_ ?_ ?_) | (with_reducible refine' ev_fn (x := Str.ofString "_law_marked") (f := 124) (by assumption) (by assumption) ?_ ?_ ?_ ?_ ?_ ?_ ?_ ?_ ?_) | (with_reducible refine' ev_fn (x := Str.ofString "_law_pieces") (f := 136) (by assumption) (by assumption) ?_ ?_ ?_ ?_ ?_ ?_ ?_ ?_ ?_) | (with_reducible refine' ev_html (by assumption) ?_ ?_ ?_ ?_ ?_ ?_ ?_) | (with_reducible refine' st_split _ 61 (by assumption) ?_ ?_ ?_ ?_ ?_ ?_ ?_ ?_) | (with_reducible refine' st_swap2 (x := _) (y := _) ?_ ?_ ?_ ?_ ?_) | with_reducible exact ts_nil | (with_reducible refine' ts_one ?_) | ((with_reducible show nsIn _ _ _ = _); k_is) | ((with_reducible show plainGet _ _ _ = _); k_is) | ((with_reducible show hasDictIn _ _ = _); k_is) | ((with_reducible show findIn _ _ _ = _); k_is) | ((with_reducible show noGet _ _ = _); k_is) | ((with_reducible show Stores _ _); first | exact Or.inl rfl | exact Or.inr ⟨rfl, rfl⟩) | ((with_reducible show (_ == _) = false); decide) | ((with_reducible show behindInMarks _ _ = _); with_unfolding_all rfl) | ((with_reducible show _ ≤ _); decide) | ((with_reducible show _ = _); rfl) | ((with_reducible show ∀ _, _ = _); intro _; rfl) | ((with_reducible show ∀ _ _, _ = _); intro _ _; rfl) | ((with_reducible show ∀ _ _ _, _ = _); intro _ _ _; rfl) | (with_reducible refine' bt_val ?_ ?_))
                case tw5 =>
                  with_reducible refine' xs_cons ?sw6 ?tw6
                  case sw6 =>
                    repeat' (first | with_reducible exact ev_int _ _ _ | with_reducible exact ev_str _ _ _ | with_reducible exact ev_none _ _ | with_reducible exact ev_bool _ _ _ | (with_reducible refine' ev_name _ _ ?_ ?_) | (with_reducible refine' ev_binop ?_ ?_) | (with_reducible refine' ev_neg ?_) | (with_reducible refine' ev_cmp ?_ ?_ ?_) | (with_reducible refine' ev_ifexp ?_ ?_ ?_) | (with_reducible refine' ev_list ?_) | (with_reducible refine' ev_tuple ?_) | with_reducible exact es_nil | (with_reducible refine' es_cons ?_ ?_ ?_) | (with_reducible refine' ev_cut ?_ ?_ ?_) | (with_reducible refine' ev_idx ?_ ?_ ?_) | with_reducible exact pt_none | (with_reducible refine' pt_some ?_) | (with_reducible refine' bt_cmp ?_ ?_ ?_) | (with_reducible refine' bt_not ?_) | (with_reducible refine' bt_bool ?_) | with_reducible exact at_and_nil | with_reducible exact at_or_nil | (with_reducible refine' at_and_cons ?_ ?_) | (with_reducible refine' at_or_cons ?_ ?_) | with_reducible exact xs_nil | (with_reducible refine' xs_cons ?_ ?_) | (with_reducible refine' st_assign ?_ ?_ ?_) | (with_reducible refine' st_aug ?_ ?_ ?_) | (with_reducible refine' st_if ?_ ?_ ?_) | (with_reducible refine' st_append ?_ ?_ ?_ ?_ ?_ ?_) | (with_reducible refine' st_augidx ?_ ?_ ?_ ?_) | (with_reducible refine' st_ret ?_) | with_reducible exact st_ret0 | with_reducible exact st_cont | with_reducible exact st_pass | (with_reducible refine' st_while ?_ ?_) | (with_reducible refine' st_for ?_ (as_name ?_) ?_ ?_ ?_) | (with_reducible refine' ev_len (by assumption) ?_ ?_ ?_ ?_ ?_ ?_ ?_ ?_) | (with_reducible refine' ev_chr (by assumption) ?_ ?_ ?_ ?_ ?_ ?_ ?_ ?_) | (with_reducible refine' ev_range (by assumption) ?_ ?_ ?_ ?_ ?_ ?_ ?_ ?_) | (with_reducible refine' ev_abs (by assumption) ?_ ?_ ?_ ?_ ?_ ?_ ?_ ?_) | (with_reducible refine' ev_count _ ?_ ?_ ?_ ?_ ?_) | (with_reducible refine' ev_split _ ?_ ?_ ?_ ?_ ?_) | (with_reducible refine' ev_index _ ?_ ?_ ?_ ?_) | (with_reducible refine' ev_attr (C := 113) (by assumption) ?_ ?_ ?_ ?_ ?_ ?_) | (with_reducible refine' ev_fn (x := Str.ofString "_law_marked") (f := 124) (by assumption) (by assumption) ?_ ?_ ?_ ?_ ?_ ?_ ?_ ?_ ?_) | (with_reducible refine' ev_fn (x := Str.ofString "_law_pieces") (f := 136) (by assumption) (by assumption) ?_ ?_ ?_ ?_ ?_ ?_ ?_ ?_ ?_) | (with_reducible refine' ev_html (by assumption) ?_ ?_ ?_ ?_ ?_ ?_ ?_) | (with_reducible refine' st_split _ 61 (by assumption) ?_ ?_ ?_ ?_ ?_ ?_ ?_ ?_) | (with_reducible refine' st_swap2 (x := _) (y := _) ?_ ?_ ?_ ?_ ?_) | with_reducible exact ts_nil | (with_reducible refine' ts_one ?_) | ((with_reducible show nsIn _ _ _ = _); k_is) | ((with_reducible show plainGet _ _ _ = _); k_is) | ((with_reducible show hasDictIn _ _ = _); k_is) | ((with_reducible show findIn _ _ _ = _); k_is) | ((with_reducible show noGet _ _ = _); k_is) | ((with_reducible show Stores _ _); first | exact Or.inl rfl | exact Or.inr ⟨rfl, rfl⟩) | ((with_reducible show (_ == _) = false); decide) | ((with_reducible show behindInMarks _ _ = _); with_unfolding_all rfl) | ((with_reducible show _ ≤ _); decide) | ((with_reducible show _ = _); rfl) | ((with_reducible show ∀ _, _ = _); intro _; rfl) | ((with_reducible show ∀ _ _, _ = _); intro _ _; rfl) | ((with_reducible show ∀ _ _ _, _ = _); intro _ _ _; rfl) | (with_reducible refine' bt_val ?_ ?_))
                  case tw6 =>
                    refine' XsOk.mono (F' := RsL) ?rl ?rlm
                    case rl => repeat' (first | with_reducible exact ev_int _ _ _ | with_reducible exact ev_str _ _ _ | with_reducible exact ev_none _ _ | with_reducible exact ev_bool _ _ _ | (with_reducible refine' ev_name _ _ ?_ ?_) | (with_reducible refine' ev_binop ?_ ?_) | (with_reducible refine' ev_neg ?_) | (with_reducible refine' ev_cmp ?_ ?_ ?_) | (with_reducible refine' ev_ifexp ?_ ?_ ?_) | (with_reducible refine' ev_list ?_) | (with_reducible refine' ev_tuple ?_) | with_reducible exact es_nil | (with_reducible refine' es_cons ?_ ?_ ?_) | (with_reducible refine' ev_cut ?_ ?_ ?_) | (with_reducible refine' ev_idx ?_ ?_ ?_) | with_reducible exact pt_none | (with_reducible refine' pt_some ?_) | (with_reducible refine' bt_cmp ?_ ?_ ?_) | (with_reducible refine' bt_not ?_) | (with_reducible refine' bt_bool ?_) | with_reducible exact at_and_nil | with_reducible exact at_or_nil | (with_reducible refine' at_and_cons ?_ ?_) | (with_reducible refine' at_or_cons ?_ ?_) | with_reducible exact xs_nil | (with_reducible refine' xs_cons ?_ ?_) | (with_reducible refine' st_assign ?_ ?_ ?_) | (with_reducible refine' st_aug ?_ ?_ ?_) | (with_reducible refine' st_if ?_ ?_ ?_) | (with_reducible refine' st_append ?_ ?_ ?_ ?_ ?_ ?_) | (with_reducible refine' st_augidx ?_ ?_ ?_ ?_) | (with_reducible refine' st_ret ?_) | with_reducible exact st_ret0 | with_reducible exact st_cont | with_reducible exact st_pass | (with_reducible refine' st_while ?_ ?_) | (with_reducible refine' st_for ?_ (as_name ?_) ?_ ?_ ?_) | (with_reducible refine' ev_len (by assumption) ?_ ?_ ?_ ?_ ?_ ?_ ?_ ?_) | (with_reducible refine' ev_chr (by assumption) ?_ ?_ ?_ ?_ ?_ ?_ ?_ ?_) | (with_reducible refine' ev_range (by assumption) ?_ ?_ ?_ ?_ ?_ ?_ ?_ ?_) | (with_reducible refine' ev_abs (by assumption) ?_ ?_ ?_ ?_ ?_ ?_ ?_ ?_) | (with_reducible refine' ev_count _ ?_ ?_ ?_ ?_ ?_) | (with_reducible refine' ev_split _ ?_ ?_ ?_ ?_ ?_) | (with_reducible refine' ev_index _ ?_ ?_ ?_ ?_) | (with_reducible refine' ev_attr (C := 113) (by assumption) ?_ ?_ ?_ ?_ ?_ ?_) | (with_reducible refine' ev_fn (x := Str.ofString "_law_marked") (f := 124) (by assumption) (by assumption) ?_ ?_ ?_ ?_ ?_ ?_ ?_ ?_ ?_) | (with_reducible refine' ev_fn (x := Str.ofString "_law_pieces") (f := 136) (by assumption) (by assumption) ?_ ?_ ?_ ?_ ?_ ?_ ?_ ?_ ?_) | (with_reducible refine' ev_html (by assumption) ?_ ?_ ?_ ?_ ?_ ?_ ?_) | (with_reducible refine' st_split _ 61 (by assumption) ?_ ?_ ?_ ?_ ?_ ?_ ?_ ?_) | (with_reducible refine' st_swap2 (x := _) (y := _) ?_ ?_ ?_ ?_ ?_) | with_reducible exact ts_nil | (with_reducible refine' ts_one ?_) | ((with_reducible show nsIn _ _ _ = _); k_is) | ((with_reducible show plainGet _ _ _ = _); k_is) | ((with_reducible show hasDictIn _ _ = _); k_is) | ((with_reducible show findIn _ _ _ = _); k_is) | ((with_reducible show noGet _ _ = _); k_is) | ((with_reducible show Stores _ _); first | exact Or.inl rfl | exact Or.inr ⟨rfl, rfl⟩) | ((with_reducible show (_ == _) = false); decide) | ((with_reducible show behindInMarks _ _ = _); with_unfolding_all rfl) | ((with_reducible show _ ≤ _); decide) | ((with_reducible show _ = _); rfl) | ((with_reducible show ∀ _, _ = _); intro _; rfl) | ((with_reducible show ∀ _ _, _ = _); intro _ _; rfl) | ((with_reducible show ∀ _ _ _, _ = _); intro _ _ _; rfl) | (with_reducible refine' bt_val ?_ ?_))
                    case rlm =>
                      rintro ⟨loc0, H0⟩ Q ⟨T, wr, number, a, b, hPW, hcl, hlen, hvis, hchr, hw1, hw9, hab, hA0, hB0, n0, n1, n2, n3, n4, n5, hQ⟩
                      simp only at hA0 hB0 n0 n1 n2 n3 n4 n5
                      dsimp only
                      simp only [ofSe, ofSg]
                      refine get_W n0 (get_W n0 ⟨number, rfl, by rw [sizeLine_eq]; simp, _, trivial, rfl, ?_⟩)
                      refine forW_inv (fun rest σ => ∃ xs, σ.H a = some ⟨true, xs⟩ ∧ σ.H b = some ⟨true, xs⟩ ∧ (∀ H r, r ∈ xs → Gd H 60 r) ∧ (∀ p ∈ rest, ∃ t, OkLine p t) ∧ xs.length + 62 * rest.length ≤ 310 ∧ σ.loc "told" = some (.ref a) ∧ σ.loc "due" = some (.ref b) ∧ σ.loc "text" = some (.str (mkS (flat T))) ∧ σ.loc "wrap" = some (.int (wr : Int)) ∧
                        σ.loc "page" = some (.obj 113 [("_tabsize", .int 8), ("_wrapcolumn", .int (wr : Int)), ("_linejunk", .none), ("_charjunk", .raw (.ref 29))])) ?step ?fin _ _ ?init
                      case init =>
                        refine ⟨[], hA0, hB0, (fun _ _ h => by cases h), ?_, by simp, n1, n2, n3, n4, n5⟩
                        · intro p hp
                          simp only [List.mem_cons, List.not_mem_nil, or_false] at hp
                          rcases hp with rfl | rfl | rfl | rfl | rfl
                          · exact ⟨_, .no⟩
                          · exact ⟨_, .int _⟩
                          · exact ⟨_, .int _⟩
                          · exact ⟨_, .more⟩
                          · exact ⟨_, .int _⟩
                      case fin =>
                        rintro σ ⟨xs, hA, hB, hg, _, _, l1, l2, _, _, _⟩
                        simp only [l1, l2, getW_some]
                        exact same_refs hA hB rfl (Gds.of fun p hp => hg _ p hp) (hQ _)
                      case step =>
                        rintro line r ⟨loc, H⟩ K ⟨xs, hA, hB, hg, hrest, hlx, l1, l2, l3, l4, l5⟩ kn kc
                        simp only at hA hB l1 l2 l3 l4 l5
                        obtain ⟨t, hline⟩ := hrest line List.mem_cons_self
                        have hrest' : ∀ p ∈ r, ∃ t, OkLine p t := fun p hp => hrest p (List.mem_cons_of_mem _ hp)
                        simp only [List.length_cons] at hlx
                        simp only [Loc.set_apply, String.reduceEq, reduceIte, getW_some, l1, l2, l3, l4, l5]
                        refine ⟨_, rfl, rfl, ?_⟩
                        refine ⟨_, a, xs, line, t, [], T, wr, rfl, rfl, rfl, hA, hline.truth, .inl rfl, hPW, hcl, hvis, by omega, by omega, by omega, by omega, rfl, ?_⟩
                        have hB' : (H.set a ⟨true, xs ++ rowsOf line (if t = true then pcs wr 61 [] T else [pre [] ++ flat T])⟩) b = some ⟨true, xs⟩ := by rw [LH.set_ne _ _ (Ne.symm hab)]; exact hB
                        have hpl := pcs_len wr (by omega) 61 [] T
                        have hpch := pcs_mem (· < 128) (by decide) (by decide) wr 61 [] T (fun _ h => by cases h) hchr
                        have two : ∀ x y : PV, [x, y].length ≤ sizeLine := fun x y => by rw [sizeLine_eq]; simp
                        have fit : ∀ l : List PV, l.length ≤ 400 → l.length ≤ sizeLine := fun l h => by rw [sizeLine_eq]; omega
                        refine hline.test (fun ht => ?_) (fun ht => ?_)
                        · subst ht
                          refine ⟨b, _, rfl, hB', two _ _, xs, hB', fit _ (by omega), ?_⟩
                          refine kn _ ⟨xs ++ [.tup [line, .str (mkS (flat T))]], ?_, ?_, ?_, hrest', ?_, by simp only [Loc.set_apply, String.reduceEq, reduceIte, l1], by simp only [Loc.set_apply, String.reduceEq, reduceIte, l2], by simp only [Loc.set_apply, String.reduceEq, reduceIte, l3], by simp only [Loc.set_apply, String.reduceEq, reduceIte, l4], by simp only [Loc.set_apply, String.reduceEq, reduceIte, l5]⟩
                          · show (LH.set _ b _) a = _
                            rw [LH.set_ne _ _ hab, LH.set_self]; rfl
                          · show (LH.set _ b _) b = _
                            rw [LH.set_self]
                          · intro H' r' hr
                            rcases List.mem_append.mp hr with hr | hr
                            · exact hg H' r' hr
                            · exact rows_gd hline [flat T] (fun p hp => by rw [List.mem_singleton] at hp; subst hp; exact hchr) r' hr
                          · simp only [List.length_append, List.length_cons, List.length_nil]; omega
                        · subst ht
                          rw [if_pos rfl] at hB' ⊢
                          refine ⟨rfl, hpc T wr _ _ hPW hcl hlen (by omega) (by omega) ?_⟩
                          rw [pcs_fuel wr (by omega) (vis T) 61 [] T (Nat.le_refl _) hvis]
                          refine ⟨_, trivial, rfl, ?_⟩
                          refine forW_inv (fun rest σ => ∃ acc todo l', rest = todo.map (fun p => .str (mkS p)) ∧ σ.H a = some ⟨true, xs ++ rowsOf line (pcs wr 61 [] T)⟩ ∧ σ.H b = some ⟨true, acc⟩ ∧ acc ++ rowsOf l' todo = xs ++ rowsOf line (pcs wr 61 [] T) ∧ σ.loc "line" = some l' ∧
                            σ.loc "told" = some (.ref a) ∧ σ.loc "due" = some (.ref b) ∧ σ.loc "text" = some (.str (mkS (flat T))) ∧ σ.loc "wrap" = some (.int (wr : Int)) ∧
                            σ.loc "page" = some (.obj 113 [("_tabsize", .int 8), ("_wrapcolumn", .int (wr : Int)), ("_linejunk", .none), ("_charjunk", .raw (.ref 29))])) ?step2 ?fin2 _ _ ?init2
                          case init2 => exact ⟨xs, _, line, rfl, LH.set_self _ _ _, hB', rfl, by simp only [Loc.set_apply, String.reduceEq, reduceIte], by simp only [Loc.set_apply, String.reduceEq, reduceIte, l1], by simp only [Loc.set_apply, String.reduceEq, reduceIte, l2], by simp only [Loc.set_apply, String.reduceEq, reduceIte, l3], by simp only [Loc.set_apply, String.reduceEq, reduceIte, l4], by simp only [Loc.set_apply, String.reduceEq, reduceIte, l5]⟩
                          case step2 =>
                            rintro p2 r2 ⟨loc2, H2⟩ K2 ⟨acc, todo, l', er, hA2, hB2, hac, m0, m1, m2, m3, m4, m5⟩ kn2 kc2
                            simp only at hA2 hB2 m0 m1 m2 m3 m4 m5
                            cases todo with
                            | nil => cases er
                            | cons p todo =>
                              cases er
                              have hal : acc.length ≤ 400 := by
                                have := congrArg List.length hac
                                rw [List.length_append, List.length_append, rowsOf_len, rowsOf_len] at this
                                omega
                              simp only [Loc.set_apply, String.reduceEq, reduceIte, getW_some, m0, m1, m2, m3, m4, m5]
                              refine ⟨b, _, rfl, hB2, two _ _, acc, hB2, fit _ hal, ?_⟩
                              refine kn2 _ ⟨acc ++ [.tup [l', .str (mkS p)]], todo, .str (mkS [62]), rfl, ?_, LH.set_self _ _ _, ?_, by simp only [Loc.set_apply, String.reduceEq, reduceIte], by simp only [Loc.set_apply, String.reduceEq, reduceIte, m1], by simp only [Loc.set_apply, String.reduceEq, reduceIte, m2], by simp only [Loc.set_apply, String.reduceEq, reduceIte, m3], by simp only [Loc.set_apply, String.reduceEq, reduceIte, m4], by simp only [Loc.set_apply, String.reduceEq, reduceIte, m5]⟩
                              · show (LH.set _ b _) a = _
                                rw [LH.set_ne _ _ hab]; exact hA2
                              · rw [← hac, List.append_assoc, rowsOf_gt]; rfl
                          case fin2 =>
                            rintro ⟨loc2, H2⟩ ⟨acc, todo, l', er, hA2, hB2, hac, m0, m1, m2, m3, m4, m5⟩
                            simp only at hA2 hB2 m0 m1 m2 m3 m4 m5
                            have ht : todo = [] := by cases todo with | nil => rfl | cons _ _ => cases er
                            subst ht
                            rw [rowsOf, List.append_nil] at hac
                            subst hac
                            refine kn _ ⟨_, hA2, hB2, ?_, hrest', ?_, m1, m2, m3, m4, m5⟩
                            · intro H' r' hr
                              rcases List.mem_append.mp hr with hr | hr
                              · exact hg H' r' hr
                              · exact rows_gd hline _ hpch r' hr
                            · rw [List.length_append, rowsOf_len]; omega
    case pre =>
      rename List Int => ws
      have hw : ws.length ≤ 63 := by omega
      clear hFm hFp G
      dsimp only
      have hn := nums09_len ws hw
      refine get_W (p := .lst (ws.map .int)) rfl ⟨_, rfl, cut_L (by rw [List.length_map, sizeLine_eq]; omega) (listW_lst ?_)⟩
      rw [show cut (ws.map PV.int) none (some 63) = ws.map PV.int from (cut_hi _ 63).trans (List.take_of_length_le (by rw [List.length_map]; exact hw))]
      refine get_W (p := .lst (ws.map .int)) rfl ⟨by decide, listW_lst (get_W (p := .lst (ws.map .int)) rfl (len_L (by rw [List.length_map]; omega) ⟨_, rfl, cut_L (by decide) (listW_lst (bin_addLL (by rw [cut_lo, sizeLine_eq]; simp; omega) (listW_lst ?_)))⟩))⟩
      rw [cut_lo, List.length_map, nums09_pv]
      generalize nums09 ws = ns at hn
      obtain ⟨x0, hx0⟩ : ∃ x, ns[0]? = some x := ⟨_, List.getElem?_eq_getElem (by omega)⟩
      obtain ⟨x1, hx1⟩ : ∃ x, ns[1]? = some x := ⟨_, List.getElem?_eq_getElem (by omega)⟩
      have h9 := fm_ok x0 (k := 9) (by decide)
      obtain ⟨wr, hwr⟩ : ∃ k : Nat, 1 + x0.fmod 9 = (k : Int) := ⟨(1 + x0.fmod 9).toNat, by omega⟩
      refine get_W (p := .lst (ns.map .int)) rfl (idx_L (k := 0) (p := .int x0) (by rw [List.getElem?_map, hx0]; rfl) (by rw [List.length_map]; omega) (bin_modI (by decide) (bin_addI ?_)))
      rw [hwr]
      refine get_W (p := .lst (ns.map .int)) rfl (idx_L (k := 1) (p := .int x1) (by rw [List.getElem?_map, hx1]; rfl) (by rw [List.length_map]; omega) ⟨x1, rfl, bin_addI ?_⟩)
      generalize 1 + (if x1 < 0 then -x1 else x1) = number
      refine ⟨by rw [sizeLine_eq]; simp, _, _, rfl, get_W (p := .lst (ns.map .int)) rfl ⟨_, rfl, cut_L (by rw [List.length_map, sizeLine_eq]; omega) (listW_lst ⟨rfl, ?_⟩)⟩⟩
      rw [show cut (ns.map PV.int) (some 2) none = (ns.drop 2).map PV.int from (cut_lo _ 2).trans List.map_drop.symm]
      refine hmk (ns.drop 2) _ _ (by rw [List.length_drop]; omega) fun T hPW hcl hlen hvis hchr => ?_
      refine get_W (p := .int (wr : Int)) rfl ⟨8, wr, rfl, ?_⟩
      refine ⟨by decide, listW_ref fun a ha => ⟨by decide, listW_ref fun b hb => ?_⟩⟩
      have hab : a ≠ b := fun e => by rw [e, LH.set_self] at hb; cases hb
      refine ⟨T, wr, number, a, b, hPW, hcl, hlen, hvis, hchr, by omega, by omega, hab, ?_, LH.set_self _ _ _, by simp only [Loc.set_apply, String.reduceEq, reduceIte], by simp only [Loc.set_apply, String.reduceEq, reduceIte], by simp only [Loc.set_apply, String.reduceEq, reduceIte], by simp only [Loc.set_apply, String.reduceEq, reduceIte], by simp only [Loc.set_apply, String.reduceEq, reduceIte], by simp only [Loc.set_apply, String.reduceEq, reduceIte], fun _ => rfl⟩
      show (LH.set _ b _) a = _
      rw [LH.set_ne _ _ hab, LH.set_self]
    case post =>
      intro fl p loc' Z' H' s' k vf hp
      cases hp
      cases vf with
      | ret v =>
        cases v
        obtain ⟨m4, hm4, _⟩ := k.sat.ns
        have keep4 := k.sat.keep
        have e0 := k.sh
        clear k
        obtain ⟨hk0, tk0, rfl⟩ := e0
        refine goodW_bool ⟨hm4, keep4, F'.above⟩ ?_ ?_ ?_ ?_
        · assumption
        · intro cls; rfl
        · first | wrow_post | kc_post
        · rfl)
end Mine
end

theorem PySem.Challenge.cw_dm0063_09_holds : PySem.Challenge.rw_dm0063_09.Holds := by
  exact Mine.law09
