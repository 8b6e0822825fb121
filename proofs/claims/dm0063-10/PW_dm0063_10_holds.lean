import PyProof.Rows.All
import Wide.All
import OpenK.AllK
import Wide.FinOn
import PySem.Challenge.RW_dm0063_10
open PySem PySem.W PyProof.Rows PySem.Calls
set_option Elab.async false
set_option maxRecDepth 100000
set_option maxHeartbeats 8000000
section
namespace Mine
/-- while hypotheses are taken apart the goal is a variable: the motives stay small -/
theorem hide {P : Prop} (h : ∀ G : Prop, (P → G) → G) : P := h P id
set_option genSizeOf false in
set_option genInjectivity false in
/-- plain values -/
inductive PV where
  | none
  | bool (b : Bool)
  | int (i : Int)
  | str (x : Str)
  | ref (a : Addr)
  | tup (xs : List PV)
  | lst (xs : List PV)
  | rng (a b c : Int)
  | obj (C : Addr) (fs : List (String × PV))
  | raw (v : Value)
abbrev Zm := Addr → Option Obj
set_option genSizeOf false in
set_option genInjectivity false in
mutual
inductive VR (Z : Zm) : PV → Value → Prop
  | none : VR Z .none .none
  | bool (b : Bool) : VR Z (.bool b) (.bool b)
  | int (i : Int) (t : Tok) : VR Z (.int i) (.int i t)
  | str (x : Str) (t : Tok) : VR Z (.str x) (.str x t)
  | ref (a : Addr) : VR Z (.ref a) (.ref a)
  | raw (v : Value) : VR Z (.raw v) v
  | tup {a : Addr} {vs : List Value} {n : Nat} {xs : List PV} : Z a = some { cls := .type "tuple", data := .seq vs.toArray n } → VRs Z xs vs → VR Z (.tup xs) (.ref a)
  | lst {a : Addr} {vs : List Value} {n : Nat} {xs : List PV} : Z a = some { cls := .type "list", data := .seq vs.toArray n } → VRs Z xs vs → VR Z (.lst xs) (.ref a)
  | rng {r : Addr} {a b c : Int} {t u v : Tok} : Z r = some { cls := .type "range", dict := Option.none, data := .fields #[.int a t, .int b u, .int c v], slots := #[] } → VR Z (.rng a b c) (.ref r)
  | obj {x C dx : Addr} {es : List DictEntry} {n : Nat} {fs : List (String × PV)} : Z x = some (instObj C dx) → Z dx = some (dictOf es n) → FRs Z fs es → VR Z (.obj C fs) (.ref x)
inductive VRs (Z : Zm) : List PV → List Value → Prop
  | nil : VRs Z [] []
  | cons {x : PV} {v : Value} {xs : List PV} {vs : List Value} : VR Z x v → VRs Z xs vs → VRs Z (x :: xs) (v :: vs)
inductive FRs (Z : Zm) : List (String × PV) → List DictEntry → Prop
  | nil : FRs Z [] []
  | cons {f : String} {x : PV} {hs : Int} {t : Tok} {v : Value} {fs : List (String × PV)} {es : List DictEntry} : VR Z x v → handedIn v = true → FRs Z fs es → FRs Z ((f, x) :: fs) (⟨hs, .str (Str.ofString f) t, v⟩ :: es)
end

noncomputable def Zle (Z Z' : Zm) : Prop := ∀ a o, Z a = some o → Z' a = some o
theorem Zle.refl (Z : Zm) : Zle Z Z := fun _ _ e => e
theorem Zle.trans {Z₁ Z₂ Z₃ : Zm} (h : Zle Z₁ Z₂) (k : Zle Z₂ Z₃) : Zle Z₁ Z₃ := fun a o e => k a o (h a o e)
mutual
theorem VR.mono {Z Z' : Zm} (h : Zle Z Z') : ∀ {x : PV} {v : Value}, VR Z x v → VR Z' x v
  | _, _, .none => .none
  | _, _, .bool b => .bool b
  | _, _, .int i t => .int i t
  | _, _, .str x t => .str x t
  | _, _, .ref a => .ref a
  | _, _, .raw v => .raw v
  | _, _, .tup e r => .tup (h _ _ e) (VRs.mono h r)
  | _, _, .lst e r => .lst (h _ _ e) (VRs.mono h r)
  | _, _, .rng e => .rng (h _ _ e)
  | _, _, .obj e d r => .obj (h _ _ e) (h _ _ d) (FRs.mono h r)
theorem VRs.mono {Z Z' : Zm} (h : Zle Z Z') : ∀ {x : List PV} {v : List Value}, VRs Z x v → VRs Z' x v
  | _, _, .nil => .nil
  | _, _, .cons e r => .cons (VR.mono h e) (VRs.mono h r)
theorem FRs.mono {Z Z' : Zm} (h : Zle Z Z') : ∀ {x : List (String × PV)} {v : List DictEntry}, FRs Z x v → FRs Z' x v
  | _, _, .nil => .nil
  | _, _, .cons e k r => .cons (VR.mono h e) k (FRs.mono h r)
end

section
variable {Z : Zm}
theorem VRs.length {xs : List PV} {vs : List Value} (h : VRs Z xs vs) : vs.length = xs.length := by
  induction xs generalizing vs with
  | nil => cases h; rfl
  | cons x xs ih => cases h with | cons _ r => rw [List.length_cons, List.length_cons, ih r]
theorem VRs.append {xs ys : List PV} {vs ws : List Value} (h : VRs Z xs vs) (k : VRs Z ys ws) : VRs Z (xs ++ ys) (vs ++ ws) := by
  induction xs generalizing vs with
  | nil => cases h; exact k
  | cons x xs ih => cases h with | cons a r => exact .cons a (ih r)
theorem VRs.get {xs : List PV} {vs : List Value} (h : VRs Z xs vs) {i : Nat} {x : PV} (hx : xs[i]? = some x) : ∃ v, vs[i]? = some v ∧ VR Z x v := by
  induction xs generalizing vs i with
  | nil => cases hx
  | cons y xs ih =>
    cases h with
    | cons a r =>
      cases i with
      | zero => cases hx; exact ⟨_, rfl, a⟩
      | succ i => exact ih r hx
theorem VRs.get' {xs : List PV} {vs : List Value} (h : VRs Z xs vs) {i : Nat} {v : Value} (hv : vs[i]? = some v) : ∃ x, xs[i]? = some x ∧ VR Z x v := by
  induction xs generalizing vs i with
  | nil => cases h; cases hv
  | cons y xs ih =>
    cases h with
    | cons a r =>
      cases i with
      | zero => cases hv; exact ⟨_, rfl, a⟩
      | succ i => exact ih r hv
theorem VRs.take {xs : List PV} {vs : List Value} (h : VRs Z xs vs) (i : Nat) : VRs Z (xs.take i) (vs.take i) := by
  induction xs generalizing vs i with
  | nil => cases h; simpa using VRs.nil
  | cons y xs ih =>
    cases h with
    | cons a r =>
      cases i with
      | zero => exact .nil
      | succ i => exact .cons a (ih r i)
theorem VRs.drop {xs : List PV} {vs : List Value} (h : VRs Z xs vs) (i : Nat) : VRs Z (xs.drop i) (vs.drop i) := by
  induction xs generalizing vs i with
  | nil => cases h; simpa using VRs.nil
  | cons y xs ih =>
    cases h with
    | cons a r =>
      cases i with
      | zero => exact .cons a r
      | succ i => exact ih r i
end
set_option genSizeOf false in
set_option genInjectivity false in
/-- a list that is kept by its address: may it be changed, and its items -/
structure LO where
  mu : Bool
  xs : List PV
abbrev LH := Addr → Option LO
abbrev Loc := String → Option PV
noncomputable def LH.set (H : LH) (a : Addr) (l : LO) : LH := fun b => if b = a then some l else H b
noncomputable def LH.ro (H : LH) : LH := fun b => (H b).map fun l => ⟨false, l.xs⟩
noncomputable def Loc.set (l : Loc) (x : String) (v : PV) : Loc := fun y => if y = x then some v else l y
set_option genSizeOf false in
set_option genInjectivity false in
structure St where
  loc : Loc
  H : LH
set_option genSizeOf false in
set_option genInjectivity false in
/-- a name of a frame's holds v -/
inductive Holds1 (Z : Zm) (env : Env) (m : Str → Option Value) (h : Heap) (x : String) (p : PV) : Prop
  | loc (v : Value) : env.kindOf (Str.ofString x) = some .local → m (Str.ofString x) = some v → VR Z p v → Holds1 Z env m h x p
  | cell (c : Addr) (v : Value) : (env.kindOf (Str.ofString x) = some .cell ∨ env.kindOf (Str.ofString x) = some .free) → env.cells.lookup (Str.ofString x) = some c → h.IsCell c (some v) → VR Z p v → Holds1 Z env m h x p
set_option genSizeOf false in
set_option genInjectivity false in
/-- the heap bears the plain state -/
structure Sat (h₀ : Heap) (Z : Zm) (env : Env) (loc : Loc) (H : LH) (h : Heap) : Prop where
  base : ∀ a o, h₀.get? a = some o → Z a = some o
  frz : ∀ a o, Z a = some o → h.get? a = some o
  nsZ : Z env.locals = Option.none
  cellZ : ∀ n c, (n, c) ∈ env.cells → Z c = Option.none ∧ (∃ w, h.IsCell c w)
  cellN : (env.cells.map (·.2)).Nodup
  kind : env.scope.kind = .function
  ns : ∃ m, h.Ns env.locals m ∧ ∀ x p, loc x = some p → Holds1 Z env m h x p
  obj : ∀ a l, H a = some l → Z a = Option.none ∧ ∃ vs n, h.get? a = some { cls := .type "list", data := .seq vs.toArray n } ∧ VRs Z l.xs vs
/-- new ones are fresh -/
noncomputable def Fresh (s : Shared) (Z Z' : Zm) : Prop := Zle Z Z' ∧ ∀ a, Z a = Option.none → Z' a ≠ Option.none → s.heap.get? a = Option.none
noncomputable def FreshH (s : Shared) (H H' : LH) : Prop := (∀ a l, H a = some l → H' a = some l) ∧ ∀ a, H a = Option.none → H' a ≠ Option.none → s.heap.get? a = Option.none
end Mine
end
section
namespace Mine
noncomputable def Zm.set (Z : Zm) (a : Addr) (o : Obj) : Zm := fun b => if b = a then some o else Z b
theorem Zm.set_self (Z : Zm) (a : Addr) (o : Obj) : Z.set a o a = some o := by simp [Zm.set]
theorem Zm.le_set {Z : Zm} {a : Addr} (o : Obj) (h : Z a = none) : Zle Z (Z.set a o) := fun b o' e => by
  unfold Zm.set
  by_cases hb : b = a
  · subst hb; rw [h] at e; cases e
  · rw [if_neg hb]; exact e
theorem LH.set_self (H : LH) (a : Addr) (l : LO) : H.set a l a = some l := by simp [LH.set]
theorem LH.set_ne (H : LH) {a b : Addr} (l : LO) (h : b ≠ a) : H.set a l b = H b := by simp [LH.set, h]
theorem Loc.set_self (l : Loc) (x : String) (v : PV) : l.set x v x = some v := by simp [Loc.set]
theorem Loc.set_ne (l : Loc) {x y : String} (v : PV) (h : y ≠ x) : l.set x v y = l y := by simp [Loc.set, h]
noncomputable def Kp (s s' : Shared) : Prop := ∃ h' tk, s' = { s with heap := h', toks := tk } ∧ ∀ b o, s.heap.get? b = some o → h'.get? b = some o
theorem Kp.refl (s : Shared) : Kp s s := ⟨s.heap, s.toks, rfl, fun _ _ e => e⟩
theorem Kp.toks (s : Shared) (tk : Nat) : Kp s { s with toks := tk } := ⟨s.heap, tk, rfl, fun _ _ e => e⟩
theorem Kp.trans {s₁ s₂ s₃ : Shared} (a : Kp s₁ s₂) (b : Kp s₂ s₃) : Kp s₁ s₃ := by
  obtain ⟨h, t, rfl, k⟩ := a
  obtain ⟨h', t', rfl, k'⟩ := b
  exact ⟨h', t', rfl, fun b o e => k' b o (k b o e)⟩
theorem Kp.get {s s' : Shared} (a : Kp s s') {b : Addr} {o : Obj} (e : s.heap.get? b = some o) : s'.heap.get? b = some o := by
  obtain ⟨h, t, rfl, k⟩ := a; exact k b o e
theorem Kp.none {s s' : Shared} (a : Kp s s') {b : Addr} (e : s'.heap.get? b = Option.none) : s.heap.get? b = Option.none := by
  cases q : s.heap.get? b with
  | none => rfl
  | some o => rw [a.get q] at e; cases e
theorem Fresh.refl (s : Shared) (Z : Zm) : Fresh s Z Z := ⟨Zle.refl Z, fun _ h k => absurd h k⟩
theorem FreshH.refl (s : Shared) (H : LH) : FreshH s H H := ⟨fun _ _ e => e, fun _ h k => absurd h k⟩
theorem Fresh.trans {s s₁ : Shared} {Z Z₁ Z₂ : Zm} (a : Fresh s Z Z₁) (b : Fresh s₁ Z₁ Z₂) (k : Kp s s₁) : Fresh s Z Z₂ :=
  ⟨a.1.trans b.1, fun x h h' => by
    cases q : Z₁ x with
    | none => exact k.none (b.2 x q h')
    | some o => exact a.2 x h (by rw [q]; exact Option.some_ne_none o)⟩
theorem FreshH.trans {s s₁ : Shared} {H H₁ H₂ : LH} (a : FreshH s H H₁) (b : FreshH s₁ H₁ H₂) (k : Kp s s₁) : FreshH s H H₂ :=
  ⟨fun x l e => b.1 x l (a.1 x l e), fun x h h' => by
    cases q : H₁ x with
    | none => exact k.none (b.2 x q h')
    | some o => exact a.2 x h (by rw [q]; exact Option.some_ne_none o)⟩
section
variable {h₀ : Heap} {Z Z' : Zm} {env : Env} {loc : Loc} {H H' : LH} {h h' : Heap}
theorem Holds1.keeps {m : Str → Option Value} {x : String} {p : PV} (a : Holds1 Z env m h x p) (z : Zle Z Z') (k : ∀ b o, h.get? b = some o → h'.get? b = some o) : Holds1 Z' env m h' x p := by
  cases a with
  | loc v a b c => exact .loc v a b (c.mono z)
  | cell c v a b d e => exact .cell c v a b (d.keeps k) (e.mono z)
/-- a heap that keeps all -/
theorem Sat.keeps (S : Sat h₀ Z env loc H h) (k : ∀ b o, h.get? b = some o → h'.get? b = some o) : Sat h₀ Z env loc H h' where
  base := S.base
  frz := fun a o e => k a o (S.frz a o e)
  nsZ := S.nsZ
  cellZ := fun n c hm => ⟨(S.cellZ n c hm).1, let ⟨w, x⟩ := (S.cellZ n c hm).2; ⟨w, x.keeps k⟩⟩
  cellN := S.cellN
  kind := S.kind
  ns := let ⟨m, a, b⟩ := S.ns; ⟨m, a.at' fun o e => k _ o e, fun x p e => (b x p e).keeps (Zle.refl Z) k⟩
  obj := fun a l e => let ⟨z, vs, n, q, r⟩ := S.obj a l e; ⟨z, vs, n, k _ _ q, r⟩
/-- a frozen one more -/
theorem Sat.freeze (S : Sat h₀ Z env loc H h) (z : Zle Z Z') (hz : ∀ a o, Z' a = some o → h.get? a = some o) (hL : Z' env.locals = none) (hc : ∀ n c, (n, c) ∈ env.cells → Z' c = none) (hH : ∀ a l, H a = some l → Z' a = none) : Sat h₀ Z' env loc H h where
  base := fun a o e => z a o (S.base a o e)
  frz := hz
  nsZ := hL
  cellZ := fun n c hm => ⟨hc n c hm, (S.cellZ n c hm).2⟩
  cellN := S.cellN
  kind := S.kind
  ns := let ⟨m, a, b⟩ := S.ns; ⟨m, a, fun x p e => (b x p e).keeps z fun _ _ e => e⟩
  obj := fun a l e => let ⟨_, vs, n, q, r⟩ := S.obj a l e; ⟨hH a l e, vs, n, q, r.mono z⟩
theorem Sat.nsAt (S : Sat h₀ Z env loc H h) : ∃ o, h.get? env.locals = some o := let ⟨_, a, _⟩ := S.ns; let ⟨o, _, _, e, _⟩ := a; ⟨o, e⟩
theorem Sat.freeze1 {a : Addr} {o : Obj} (S : Sat h₀ Z env loc H h) (hk : ∀ b o, h.get? b = some o → h'.get? b = some o) (ha : h.get? a = none) (ho : h'.get? a = some o) : Sat h₀ (Z.set a o) env loc H h' := by
  have hZ : Z a = none := by
    cases q : Z a with
    | none => rfl
    | some o => have := S.frz a o q; rw [ha] at this; cases this
  have ne : ∀ b o', h.get? b = some o' → b ≠ a := fun b o' e q => by rw [q, ha] at e; cases e
  refine (S.keeps hk).freeze (Zm.le_set o hZ) ?_ ?_ ?_ ?_
  · intro b o' e
    unfold Zm.set at e
    by_cases hb : b = a
    · rw [if_pos hb] at e; cases e; rw [hb]; exact ho
    · rw [if_neg hb] at e; exact hk _ _ (S.frz _ _ e)
  · obtain ⟨oL, e⟩ := S.nsAt
    unfold Zm.set; rw [if_neg (ne _ _ e)]; exact S.nsZ
  · intro n c hm
    obtain ⟨z, w, oc, e, _⟩ := S.cellZ n c hm
    unfold Zm.set; rw [if_neg (ne _ _ e)]; exact z
  · intro b l hb
    obtain ⟨z, vs, n, e, _⟩ := S.obj b l hb
    unfold Zm.set; rw [if_neg (ne _ _ e)]; exact z
theorem Sat.newList {a : Addr} {vs : List Value} {n : Nat} {l : LO} (S : Sat h₀ Z env loc H h) (hk : ∀ b o, h.get? b = some o → h'.get? b = some o) (ha : h.get? a = none) (ho : h'.get? a = some { cls := .type "list", data := .seq vs.toArray n }) (hv : VRs Z l.xs vs) : Sat h₀ Z env loc (H.set a l) h' where
  base := S.base
  frz := fun a o e => hk a o (S.frz a o e)
  nsZ := S.nsZ
  cellZ := (S.keeps hk).cellZ
  cellN := S.cellN
  kind := S.kind
  ns := (S.keeps hk).ns
  obj := fun b l' e => by
    by_cases hb : b = a
    · subst hb
      rw [LH.set_self] at e; cases e
      refine ⟨?_, vs, n, ho, hv⟩
      cases q : Z b with
      | none => rfl
      | some o => have := S.frz b o q; rw [ha] at this; cases this
    · rw [LH.set_ne _ _ hb] at e
      exact (S.keeps hk).obj b l' e
end
/-- what a pure expression leaves -/
structure Ke (h₀ : Heap) (env : Env) (loc : Loc) (Z : Zm) (H : LH) (s : Shared) (Z' : Zm) (H' : LH) (s' : Shared) : Prop where
  sat : Sat h₀ Z' env loc H' s'.heap
  kp : Kp s s'
  fz : Fresh s Z Z'
  fh : FreshH s H H'
section
variable {h₀ : Heap} {env : Env} {loc : Loc} {Z Z' Z₁ Z₂ : Zm} {H H' H₁ H₂ : LH} {s s' s₁ s₂ : Shared}
theorem Ke.refl (S : Sat h₀ Z env loc H s.heap) : Ke h₀ env loc Z H s Z H s := ⟨S, Kp.refl s, Fresh.refl s Z, FreshH.refl s H⟩
theorem Ke.toks (S : Sat h₀ Z env loc H s.heap) (tk : Nat) : Ke h₀ env loc Z H s Z H { s with toks := tk } := ⟨S, Kp.toks s tk, Fresh.refl s Z, FreshH.refl s H⟩
theorem Ke.keep (S : Sat h₀ Z env loc H s.heap) (k : Kp s s') : Ke h₀ env loc Z H s Z H s' := ⟨S.keeps fun _ _ e => k.get e, k, Fresh.refl s Z, FreshH.refl s H⟩
theorem Ke.trans (a : Ke h₀ env loc Z H s Z₁ H₁ s₁) (b : Ke h₀ env loc Z₁ H₁ s₁ Z₂ H₂ s₂) : Ke h₀ env loc Z H s Z₂ H₂ s₂ := ⟨b.sat, a.kp.trans b.kp, a.fz.trans b.fz a.kp, a.fh.trans b.fh a.kp⟩
theorem Ke.frozen {a : Addr} {o : Obj} (S : Sat h₀ Z env loc H s.heap) (k : Kp s s') (ha : s.heap.get? a = none) (ho : s'.heap.get? a = some o) : Ke h₀ env loc Z H s (Z.set a o) H s' := by
  have hZ : Z a = none := by
    cases q : Z a with
    | none => rfl
    | some o => have := S.frz a o q; rw [ha] at this; cases this
  refine ⟨S.freeze1 (fun _ _ e => k.get e) ha ho, k, ⟨Zm.le_set o hZ, fun b h h' => ?_⟩, FreshH.refl s H⟩
  by_cases hb : b = a
  · rw [hb]; exact ha
  · unfold Zm.set at h'; rw [if_neg hb] at h'; exact absurd h h'
theorem Ke.newList {a : Addr} {vs : List Value} {n : Nat} {l : LO} (S : Sat h₀ Z env loc H s.heap) (k : Kp s s') (ha : s.heap.get? a = none) (ho : s'.heap.get? a = some { cls := .type "list", data := .seq vs.toArray n }) (hv : VRs Z l.xs vs) :
    Ke h₀ env loc Z H s Z (H.set a l) s' ∧ H a = none := by
  have hH : H a = none := by
    cases q : H a with
    | none => rfl
    | some o => obtain ⟨_, _, _, e, _⟩ := S.obj a o q; rw [ha] at e; cases e
  refine ⟨⟨S.newList (fun _ _ e => k.get e) ha ho hv, k, Fresh.refl s Z, ?_, fun b h h' => ?_⟩, hH⟩
  · intro b l' e
    by_cases hb : b = a
    · subst hb; rw [hH] at e; cases e
    · rw [LH.set_ne _ _ hb]; exact e
  · by_cases hb : b = a
    · rw [hb]; exact ha
    · rw [LH.set_ne _ _ hb] at h'; exact absurd h h'
end
theorem get_size (h : Heap) : h.get? h.objs.size = none := by
  cases q : h.get? h.objs.size with
  | none => rfl
  | some o => exact absurd (Heap.lt_size q) (Nat.lt_irrefl _)
theorem Kp.push (s : Shared) (o : Obj) : Kp s { s with heap := s.heap.push o } := ⟨_, s.toks, rfl, fun _ _ e => Heap.get?_push_of_some _ e⟩
/-- room for n calls within each other -/
structure Rm (n : Nat) (A : Around) : Prop where
  hd : A.handled = none
  dp : A.depth + n < recursionLimit
  un : A.units + 80 + 8 * n < cLine
theorem Rm.le {n k : Nat} {A : Around} (r : Rm n A) (h : k ≤ n) : Rm k A := ⟨r.hd, by have := r.dp; (first | lia | omega), by have := r.un; (first | lia | omega)⟩
theorem Rm.deeper {n : Nat} {A : Around} (r : Rm (n + 1) A) (env : Env) : Rm n (A.deeper env) := ⟨r.hd, by have := r.dp; show A.depth + 1 + n < _; (first | lia | omega), by have := r.un; show A.units + 3 + 80 + 8 * n < _; (first | lia | omega)⟩
abbrev ET := St → (PV → LH → Prop) → Prop
abbrev BT := St → (Bool → LH → Prop) → Prop
section
variable (h₀ : Heap) (prog : Program) (w : World)
/-- the expression, as a transformer of plain states -/
noncomputable def EvOk (n : Nat) (env : Env) (e : Expr) (F : ET) : Prop :=
  ∀ (A : Around) (Z : Zm) (loc : Loc) (H : LH) (s : Shared) (Q : PV → LH → Prop) (Q' : Value → Shared → Prop) (E : Value → Shared → Prop),
    Rm n A → Sat h₀ Z env loc H s.heap → F ⟨loc, H⟩ Q →
    (∀ v p Z' H' s', Ke h₀ env loc Z H s Z' H' s' → VR Z' p v → Q p H' → Q' v s') → wpAny (model prog w) A (eval e env) Q' E s
/-- a test -/
noncomputable def BtOk (n : Nat) (env : Env) (e : Expr) (F : BT) : Prop :=
  ∀ (A : Around) (Z : Zm) (loc : Loc) (H : LH) (s : Shared) (Q : Bool → LH → Prop) (Q' : Bool → Shared → Prop) (E : Value → Shared → Prop),
    Rm n A → Sat h₀ Z env loc H s.heap → F ⟨loc, H⟩ Q →
    (∀ b Z' H' s', Ke h₀ env loc Z H s Z' H' s' → Q b H' → Q' b s') → wpAny (model prog w) A (isTrue e env (eval e env)) Q' E s
/-- an operation on values -/
noncomputable def OpOk (n : Nat) (env : Env) (loc : Loc) (Z : Zm) (H : LH) (s : Shared) (t : Sem Value) (W : (PV → LH → Prop) → Prop) : Prop :=
  ∀ (A : Around) (Q : PV → LH → Prop) (Q' : Value → Shared → Prop) (E : Value → Shared → Prop), Rm n A → W Q →
    (∀ v p Z' H' s', Ke h₀ env loc Z H s Z' H' s' → VR Z' p v → Q p H' → Q' v s') → wpAny (model prog w) A t Q' E s
end
end Mine
end
section
namespace Mine
noncomputable def getW (o : Option PV) (k : PV → Prop) : Prop := ∃ v, o = some v ∧ k v
theorem getW_some (v : PV) (k : PV → Prop) : getW (some v) k = k v := by simp [getW]
section
variable {h₀ : Heap} {prog : Program} {w : World} {n : Nat} {env : Env}
theorem ev_int (i : Int) (k : Nat) (pos : Pos) : EvOk h₀ prog w n env (.Constant (.int i) k pos) (fun σ Q => Q (.int i) σ.H) :=
  fun _ _ _ _ _ _ _ _ _ S f q => wpAny_Constant_int (q _ _ _ _ _ (Ke.toks S _) (.int _ _) f)
theorem ev_str (x : Str) (k : Nat) (pos : Pos) : EvOk h₀ prog w n env (.Constant (.str x) k pos) (fun σ Q => Q (.str x) σ.H) :=
  fun _ _ _ _ _ _ _ _ _ S f q => wpAny_Constant_str (q _ _ _ _ _ (Ke.toks S _) (.str _ _) f)
theorem ev_none (k : Nat) (pos : Pos) : EvOk h₀ prog w n env (.Constant .none k pos) (fun σ Q => Q .none σ.H) :=
  fun _ _ _ _ _ _ _ _ _ S f q => wpAny_Constant_none (q _ _ _ _ _ (Ke.refl S) .none f)
theorem ev_bool (b : Bool) (k : Nat) (pos : Pos) : EvOk h₀ prog w n env (.Constant (.bool b) k pos) (fun σ Q => Q (.bool b) σ.H) :=
  fun _ _ _ _ _ _ _ _ _ S f q => wpAny_Constant_bool (q _ _ _ _ _ (Ke.refl S) (.bool _) f)
theorem load_ok {A : Around} {Z : Zm} {loc : Loc} {H : LH} {s : Shared} {x : String} {p : PV} {Q' : Value → Shared → Prop} {E : Value → Shared → Prop} (S : Sat h₀ Z env loc H s.heap) (e : loc x = some p)
    (q : ∀ v, VR Z p v → Q' v s) (hn : (Str.ofString x == ("__classdict__" : Str)) = false) : wpAny (model prog w) A (loadName env (Str.ofString x)) Q' E s := by
  obtain ⟨m, hm, hl⟩ := S.ns
  cases hl x p e with
  | loc v a b c => exact wpAny_loadName_local S.kind a hm b (q v c)
  | cell c v a b d e =>
    rcases a with a | a
    · exact wpAny_loadName_cell S.kind a b d (q v e)
    · exact wpAny_loadName_free S.kind a b d (q v e) hn
theorem ev_name (x : String) (pos : Pos) (hd : (Str.ofString x == ("__debug__" : Str)) = false) (hn : (Str.ofString x == ("__classdict__" : Str)) = false) :
    EvOk h₀ prog w n env (.Name (Str.ofString x) pos) (fun σ Q => getW (σ.loc x) fun v => Q v σ.H) := by
  intro A Z loc H s Q Q' E r S f q
  obtain ⟨p, e, f⟩ := f
  exact wpAny_Name (load_ok S e (fun v hv => q _ _ _ _ _ (Ke.refl S) hv f) hn) hd
theorem ev_bin {l r : Expr} {op : Operator} {pos : Pos} {fl fr : ET} {W : PV → PV → LH → (PV → LH → Prop) → Prop} (hl : EvOk h₀ prog w n env l fl) (hr : EvOk h₀ prog w n env r fr)
    (hop : ∀ loc Z H s a b x y, Sat h₀ Z env loc H s.heap → VR Z a x → VR Z b y → OpOk h₀ prog w n env loc Z H s (binaryOp op x y) (W a b H)) :
    EvOk h₀ prog w n env (.BinOp l op r pos) (fun σ Q => fl σ fun a H₁ => fr ⟨σ.loc, H₁⟩ fun b H₂ => W a b H₂ Q) := by
  intro A Z loc H s Q Q' E rm S f q
  refine wpAny_BinOp (hl A Z loc H s _ _ _ rm S f fun x a Z₁ H₁ s₁ k₁ va f₁ => ?_)
  refine hr A Z₁ loc H₁ s₁ _ _ _ rm k₁.sat f₁ fun y b Z₂ H₂ s₂ k₂ vb f₂ => ?_
  exact hop loc Z₂ H₂ s₂ a b x y k₂.sat (va.mono k₂.fz.1) vb A Q _ _ rm f₂ fun v p Z₃ H₃ s₃ k₃ vv f₃ => q _ _ _ _ _ (k₁.trans (k₂.trans k₃)) vv f₃
/-- a value that is made without touching the heap -/
theorem op_val {A : Around} {loc : Loc} {Z : Zm} {H : LH} {s : Shared} {t : Sem Value} {p : PV} {Q : PV → LH → Prop} {Q' : Value → Shared → Prop} {E : Value → Shared → Prop} (S : Sat h₀ Z env loc H s.heap) (f : Q p H)
    (q : ∀ v p Z' H' s', Ke h₀ env loc Z H s Z' H' s' → VR Z' p v → Q p H' → Q' v s')
    (h : (∀ v tk, VR Z p v → Q' v { s with toks := tk }) → wpAny (model prog w) A t Q' E s) : wpAny (model prog w) A t Q' E s :=
  h fun v tk hv => q _ _ _ _ _ (Ke.toks S tk) hv f
end
noncomputable def listW (xs : List PV) (H : LH) (Q : PV → LH → Prop) : Prop := Q (.lst xs) H ∨ ∀ a, H a = none → Q (.ref a) (H.set a ⟨true, xs⟩)
theorem listW_lst {xs : List PV} {H : LH} {Q : PV → LH → Prop} (h : Q (.lst xs) H) : listW xs H Q := .inl h
theorem listW_ref {xs : List PV} {H : LH} {Q : PV → LH → Prop} (h : ∀ a, H a = none → Q (.ref a) (H.set a ⟨true, xs⟩)) : listW xs H Q := .inr h
section
variable {h₀ : Heap} {prog : Program} {w : World} {n : Nat} {env : Env}
/-- a new list, kept by its value or by its address -/
theorem list_new {loc : Loc} {Z : Zm} {H : LH} {s s' : Shared} {a : Addr} {vs : List Value} {k : Nat} {xs : List PV} {Q : PV → LH → Prop} {Q' : Value → Shared → Prop} (S : Sat h₀ Z env loc H s.heap) (f : listW xs H Q)
    (q : ∀ v p Z' H' s', Ke h₀ env loc Z H s Z' H' s' → VR Z' p v → Q p H' → Q' v s') (hk : Kp s s') (ha : s.heap.get? a = none) (ho : s'.heap.get? a = some { cls := .type "list", data := .seq vs.toArray k }) (hv : VRs Z xs vs) : Q' (.ref a) s' := by
  rcases f with f | f
  · have K := Ke.frozen S hk ha ho
    exact q _ _ _ _ _ K (.lst (Zm.set_self _ _ _) (hv.mono K.fz.1)) f
  · obtain ⟨K, hH⟩ := Ke.newList (l := ⟨true, xs⟩) S hk ha ho hv
    exact q _ _ _ _ _ K (.ref a) (f a hH)
theorem tup_new {loc : Loc} {Z : Zm} {H : LH} {s s' : Shared} {a : Addr} {vs : List Value} {k : Nat} {xs : List PV} {Q : PV → LH → Prop} {Q' : Value → Shared → Prop} (S : Sat h₀ Z env loc H s.heap) (f : Q (.tup xs) H)
    (q : ∀ v p Z' H' s', Ke h₀ env loc Z H s Z' H' s' → VR Z' p v → Q p H' → Q' v s') (hk : Kp s s') (ha : s.heap.get? a = none) (ho : s'.heap.get? a = some { cls := .type "tuple", data := .seq vs.toArray k }) (hv : VRs Z xs vs) : Q' (.ref a) s' := by
  have K := Ke.frozen S hk ha ho
  exact q _ _ _ _ _ K (.tup (Zm.set_self _ _ _) (hv.mono K.fz.1)) f
end
abbrev EsT := St → (List PV → LH → Prop) → Prop
noncomputable def EsOk (h₀ : Heap) (prog : Program) (w : World) (n : Nat) (env : Env) (es : List Expr) (F : EsT) : Prop :=
  ∀ (A : Around) (Z : Zm) (loc : Loc) (H : LH) (s : Shared) (pos : Pos) (Q : List PV → LH → Prop) (Q' : List Value → Shared → Prop) (E : Value → Shared → Prop),
    Rm n A → Sat h₀ Z env loc H s.heap → F ⟨loc, H⟩ Q →
    (∀ v p Z' H' s', Ke h₀ env loc Z H s Z' H' s' → VRs Z' p v → Q p H' → Q' v s') → wpAny (model prog w) A (spliced (backTo pos (starEach es env))) Q' E s
section
variable {h₀ : Heap} {prog : Program} {w : World} {n : Nat} {env : Env}
theorem es_nil : EsOk h₀ prog w n env [] (fun σ Q => Q [] σ.H) :=
  fun _ _ _ _ _ _ _ _ _ _ S f q => wpAny_items_nil (q _ _ _ _ _ (Ke.refl S) .nil f)
theorem es_cons {e : Expr} {rest : List Expr} {fe : ET} {fr : EsT} (he : EvOk h₀ prog w n env e fe) (hr : EsOk h₀ prog w n env rest fr) (hs : starEach (e :: rest) env = (false, eval e env) :: starEach rest env := by rfl) :
    EsOk h₀ prog w n env (e :: rest) (fun σ Q => fe σ fun a H₁ => fr ⟨σ.loc, H₁⟩ fun as H₂ => Q (a :: as) H₂) := by
  intro A Z loc H s pos Q Q' E rm S f q
  refine wpAny_items_cons (he A Z loc H s _ _ _ rm S f fun x a Z₁ H₁ s₁ k₁ va f₁ => ?_) hs
  refine hr A Z₁ loc H₁ s₁ pos _ _ _ rm k₁.sat f₁ fun y b Z₂ H₂ s₂ k₂ vb f₂ => ?_
  exact q _ _ _ _ _ (k₁.trans k₂) (.cons (va.mono k₂.fz.1) vb) f₂
theorem ev_list {es : List Expr} {pos : Pos} {F : EsT} (hes : EsOk h₀ prog w n env es F) :
    EvOk h₀ prog w n env (.List es pos) (fun σ Q => F σ fun xs H₁ => xs.length ≤ sizeLine ∧ listW xs H₁ Q) := by
  intro A Z loc H s Q Q' E rm S f q
  refine wpAny_List (hes A Z loc H s pos _ _ _ rm S f fun vs xs Z₁ H₁ s₁ k₁ va f₁ => ⟨by rw [va.length]; exact f₁.1, ?_⟩)
  exact list_new k₁.sat f₁.2 (fun _ _ _ _ _ k v f => q _ _ _ _ _ (k₁.trans k) v f) (Kp.push _ _) (get_size _) (Heap.get?_push_size _ rfl) va
theorem ev_tuple {es : List Expr} {k : Nat} {pos : Pos} {F : EsT} (hes : EsOk h₀ prog w n env es F) :
    EvOk h₀ prog w n env (.Tuple es k pos) (fun σ Q => F σ fun xs H₁ => xs.length ≤ sizeLine ∧ Q (.tup xs) H₁) := by
  intro A Z loc H s Q Q' E rm S f q
  refine wpAny_Tuple (hes A Z loc H s pos _ _ _ rm S f fun vs xs Z₁ H₁ s₁ k₁ va f₁ => ⟨by rw [va.length]; exact f₁.1, ?_⟩)
  exact tup_new k₁.sat f₁.2 (fun _ _ _ _ _ k v f => q _ _ _ _ _ (k₁.trans k) v f) (Kp.push _ _) (get_size _) (Heap.get?_push_size _ rfl) va
theorem ev_ifexp {t b o : Expr} {pos : Pos} {ft : BT} {fb fo : ET} (ht : BtOk h₀ prog w n env t ft) (hb : EvOk h₀ prog w n env b fb) (ho : EvOk h₀ prog w n env o fo) :
    EvOk h₀ prog w n env (.IfExp t b o pos) (fun σ Q => ft σ fun c H₁ => if c then fb ⟨σ.loc, H₁⟩ Q else fo ⟨σ.loc, H₁⟩ Q) := by
  intro A Z loc H s Q Q' E rm S f q
  refine wpAny_IfExp (ht A Z loc H s _ _ _ rm S f fun c Z₁ H₁ s₁ k₁ f₁ => ?_)
  cases c with
  | true => exact hb A Z₁ loc H₁ s₁ Q Q' E rm k₁.sat f₁ fun _ _ _ _ _ k v f => q _ _ _ _ _ (k₁.trans k) v f
  | false => exact ho A Z₁ loc H₁ s₁ Q Q' E rm k₁.sat f₁ fun _ _ _ _ _ k v f => q _ _ _ _ _ (k₁.trans k) v f
end
end Mine
end
section
namespace Mine
/-- the items of a list -/
noncomputable def lstOf (H : LH) : PV → Option (List PV)
  | .lst xs => some xs
  | .ref a => (H a).map (·.xs)
  | _ => none
/-- a list as it stands in the heap -/
theorem lst_at {h₀ : Heap} {Z : Zm} {env : Env} {loc : Loc} {H : LH} {h : Heap} {p : PV} {v : Value} {xs : List PV} (S : Sat h₀ Z env loc H h) (hv : VR Z p v) (e : lstOf H p = some xs) :
    ∃ a vs n, v = .ref a ∧ h.get? a = some { cls := .type "list", data := .seq (List.toArray vs) n } ∧ VRs Z xs vs := by
  cases hv with
  | lst z r => cases e; exact ⟨_, _, _, rfl, S.frz _ _ z, r⟩
  | ref a =>
    change (H a).map (·.xs) = some xs at e
    cases q : H a with
    | none => rw [q] at e; cases e
    | some l =>
      rw [q] at e; cases e
      obtain ⟨_, vs, n, ho, r⟩ := S.obj a l q
      exact ⟨a, vs, n, rfl, ho, r⟩
  | _ => cases e
theorem lst_isList {h₀ : Heap} {Z : Zm} {env : Env} {loc : Loc} {H : LH} {h : Heap} {p : PV} {v : Value} {xs : List PV} (S : Sat h₀ Z env loc H h) (hv : VR Z p v) (e : lstOf H p = some xs) :
    ∃ a vs, v = .ref a ∧ h.IsList a (List.toArray vs) ∧ VRs Z xs vs := by
  obtain ⟨a, vs, n, e1, e2, e5⟩ := lst_at S hv e
  exact ⟨a, vs, e1, ⟨_, e2, rfl, n, rfl⟩, e5⟩
noncomputable def addW (a b : PV) (H : LH) (Q : PV → LH → Prop) : Prop :=
  match a, b with
  | .int i, .int j => Q (.int (i + j)) H
  | .str x, .str y => x.length + y.length ≤ sizeLine ∧ Q (.str (x ++ y)) H
  | a, b => ∃ xs ys, lstOf H a = some xs ∧ lstOf H b = some ys ∧ xs.length + ys.length ≤ sizeLine ∧ listW (xs ++ ys) H Q
noncomputable def mulW (a b : PV) (H : LH) (Q : PV → LH → Prop) : Prop :=
  match a, b with
  | .int i, .int j => IntMulOk i j ∧ Q (.int (i * j)) H
  | .str x, .int j => MulOk x j ∧ Q (.str (Txt.mul x j)) H
  | _, _ => False
noncomputable def intW (P : Int → Int → Prop) (f : Int → Int → Int) (a b : PV) (H : LH) (Q : PV → LH → Prop) : Prop :=
  match a, b with
  | .int i, .int j => P i j ∧ Q (.int (f i j)) H
  | _, _ => False
noncomputable def subW (a b : PV) (H : LH) (Q : PV → LH → Prop) : Prop :=
  match a, b with
  | .int i, .int j => Q (.int (i - j)) H
  | _, _ => False
noncomputable def binW (op : Operator) (a b : PV) (H : LH) (Q : PV → LH → Prop) : Prop :=
  match op with
  | .Add => addW a b H Q
  | .Sub => subW a b H Q
  | .Mult => mulW a b H Q
  | .FloorDiv => intW (fun _ j => j ≠ 0 ∧ j.natAbs < 1073741824) Int.fdiv a b H Q
  | .Mod => intW (fun _ j => j ≠ 0) Int.fmod a b H Q
  | _ => False
section
variable {h₀ : Heap} {prog : Program} {w : World} {n : Nat} {env : Env}
theorem add_lists_ok {loc : Loc} {Z : Zm} {H : LH} {s : Shared} {a b : PV} {x y : Value} {xs ys : List PV} {A : Around} {Q : PV → LH → Prop} {Q' : Value → Shared → Prop} {E : Value → Shared → Prop}
    (S : Sat h₀ Z env loc H s.heap) (va : VR Z a x) (vb : VR Z b y) (ha : lstOf H a = some xs) (hb : lstOf H b = some ys) (hsz : xs.length + ys.length ≤ sizeLine) (f : listW (xs ++ ys) H Q)
    (q : ∀ v p Z' H' s', Ke h₀ env loc Z H s Z' H' s' → VR Z' p v → Q p H' → Q' v s') : wpAny (model prog w) A (binaryOp .Add x y) Q' E s := by
  obtain ⟨l, vs, k, rfl, ho, r1⟩ := lst_at S va ha
  obtain ⟨l2, ws, k2, rfl, ho2, r2⟩ := lst_at S vb hb
  have e : vs.toArray ++ ws.toArray = (vs ++ ws).toArray := by simp
  refine concat_meets ⟨_, ho, rfl⟩ ⟨_, ho2, rfl⟩ noFill_list_add seq_list_add PySem.F.slot_list_add PySem.F.entry_list_add (PySem.F.args_list_add_2 _ _)
    (list_addW l l2 vs.toArray ws.toArray k k2 none none #[] #[] (by simpa [r1.length, r2.length] using hsz)) ⟨ho, ho2, ?_⟩
  rw [e]
  exact list_new S f q (Kp.push _ _) (get_size _) (Heap.get?_push_size _ rfl) (r1.append r2)
theorem bin_ok (op : Operator) (loc : Loc) (Z : Zm) (H : LH) (s : Shared) (a b : PV) (x y : Value) (S : Sat h₀ Z env loc H s.heap) (va : VR Z a x) (vb : VR Z b y) : OpOk h₀ prog w n env loc Z H s (binaryOp op x y) (binW op a b H) := by
  intro A Q Q' E rm f q
  have hInts : ∀ {P f}, intW P f a b H Q → ∃ i j t u, a = .int i ∧ b = .int j ∧ x = .int i t ∧ y = .int j u ∧ P i j ∧ Q (.int (f i j)) H := fun {P f} h => by
    unfold intW at h
    split at h
    · cases va with | int _ t => cases vb with | int _ u => exact ⟨_, _, t, u, rfl, rfl, rfl, rfl, h⟩
    · exact h.elim
  cases op with
  | Add =>
    change addW a b H Q at f
    unfold addW at f
    split at f
    · cases va with | int i t => cases vb with | int j u => exact op_val S f q fun h => P.add_int (h _ _ (.int _ _))
    · cases va with | str i t => cases vb with | str j u => exact op_val S f.2 q fun h => PyProof.Rows.add_str (fun t' tk => h _ tk (.str _ t')) f.1
    · obtain ⟨xs, ys, ha, hb, hsz, f⟩ := f
      exact add_lists_ok S va vb ha hb hsz f q
  | Sub =>
    change subW a b H Q at f
    unfold subW at f
    split at f
    · cases va with | int i t => cases vb with | int j u => exact op_val S f q fun h => P.sub_int (h _ _ (.int _ _))
    · exact f.elim
  | Mult =>
    change mulW a b H Q at f
    unfold mulW at f
    split at f
    · cases va with | int i t => cases vb with | int j u => exact op_val S f.2 q fun h => P.mul_int (h _ _ (.int _ _)) f.1
    · cases va with | str i t => cases vb with | int j u => exact op_val S f.2 q fun h => SB.mul f.1 (fun t' tk => h _ tk (.str _ t'))
    · exact f.elim
  | FloorDiv => obtain ⟨i, j, t, u, rfl, rfl, rfl, rfl, hp, f⟩ := hInts f; exact op_val S f q fun h => PyProof.Rows.floordiv_int hp.1 (h _ _ (.int _ _)) (.inl (PyProof.noPylong_small hp.2))
  | Mod => obtain ⟨i, j, t, u, rfl, rfl, rfl, rfl, hp, f⟩ := hInts f; exact op_val S f q fun h => PyProof.Rows.mod_int' hp (h _ _ (.int _ _))
  | _ => exact f.elim
/-- += and its kin, on values -/
noncomputable def inAddW (a b : PV) (H : LH) (Q : PV → LH → Prop) : Prop :=
  match a, b with
  | .int i, .int j => Q (.int (i + j)) H
  | .str x, .str y => x.length + y.length ≤ sizeLine ∧ Q (.str (x ++ y)) H
  | _, _ => False
noncomputable def inW (op : Operator) (a b : PV) (H : LH) (Q : PV → LH → Prop) : Prop :=
  match op with
  | .Add => inAddW a b H Q
  | .Sub => subW a b H Q
  | _ => False
theorem in_ok (op : Operator) (loc : Loc) (Z : Zm) (H : LH) (s : Shared) (a b : PV) (x y : Value) (S : Sat h₀ Z env loc H s.heap) (va : VR Z a x) (vb : VR Z b y) : OpOk h₀ prog w n env loc Z H s (inplaceOp op x y) (inW op a b H) := by
  intro A Q Q' E rm f q
  cases op with
  | Add =>
    change inAddW a b H Q at f
    unfold inAddW at f
    split at f
    · cases va with | int i t => cases vb with | int j u => exact op_val S f q fun h => P.iadd_int (h _ _ (.int _ _))
    · cases va with | str i t => cases vb with | str j u => exact op_val S f.2 q fun h => PyProof.Rows.iadd_str (fun t' tk => h _ tk (.str _ t')) f.1
    · exact f.elim
  | Sub =>
    change subW a b H Q at f
    unfold subW at f
    split at f
    · cases va with | int i t => cases vb with | int j u => exact op_val S f q fun h => P.isub_int (h _ _ (.int _ _))
    · exact f.elim
  | _ => exact f.elim
theorem ev_binop {l r : Expr} {op : Operator} {pos : Pos} {fl fr : ET} (hl : EvOk h₀ prog w n env l fl) (hr : EvOk h₀ prog w n env r fr) :
    EvOk h₀ prog w n env (.BinOp l op r pos) (fun σ Q => fl σ fun a H₁ => fr ⟨σ.loc, H₁⟩ fun b H₂ => binW op a b H₂ Q) := ev_bin hl hr (bin_ok op)
end
end Mine
end
section
namespace Mine
mutual
/-- the datum that a value is -/
inductive Dt (H : LH) : PV → PyData → Prop
  | none : Dt H .none .none
  | bool (b : Bool) : Dt H (.bool b) (.bool b)
  | int (i : Int) : Dt H (.int i) (.int i)
  | str (x : Str) : Dt H (.str x) (.str x)
  | tup {xs : List PV} {ds : List PyData} : Dts H xs ds → Dt H (.tup xs) (.tuple ds)
  | lst {xs : List PV} {ds : List PyData} : Dts H xs ds → Dt H (.lst xs) (.list ds)
  | ref {a : Addr} {l : LO} {ds : List PyData} : H a = some l → Dts H l.xs ds → Dt H (.ref a) (.list ds)
inductive Dts (H : LH) : List PV → List PyData → Prop
  | nil : Dts H [] []
  | cons {x : PV} {d : PyData} {xs : List PV} {ds : List PyData} : Dt H x d → Dts H xs ds → Dts H (x :: xs) (d :: ds)
end
section
variable {h₀ : Heap} {Z : Zm} {env : Env} {loc : Loc} {H : LH} {h : Heap}
mutual
theorem Dt.reads (S : Sat h₀ Z env loc H h) : ∀ {p : PV} {d : PyData} {v : Value}, Dt H p d → VR Z p v → ∃ as, Reads h v d as
  | _, _, _, .none, hv => by cases hv; exact ⟨_, .none⟩
  | _, _, _, .bool _, hv => by cases hv; exact ⟨_, .bool _⟩
  | _, _, _, .int _, hv => by cases hv; exact ⟨_, .int _ _⟩
  | _, _, _, .str _, hv => by cases hv; exact ⟨_, .str _ _⟩
  | _, _, _, .tup r, hv => by
      cases hv with
      | tup z k => obtain ⟨_, q⟩ := Dts.reads S r k; exact ⟨_, .tuple (S.frz _ _ z) rfl rfl q⟩
  | _, _, _, .lst r, hv => by
      cases hv with
      | lst z k => obtain ⟨_, q⟩ := Dts.reads S r k; exact ⟨_, .list (S.frz _ _ z) rfl rfl q⟩
  | _, _, _, .ref e r, hv => by
      cases hv
      obtain ⟨_, vs, n, ho, k⟩ := S.obj _ _ e
      obtain ⟨_, q⟩ := Dts.reads S r k
      exact ⟨_, .list ho rfl rfl q⟩
theorem Dts.reads (S : Sat h₀ Z env loc H h) : ∀ {p : List PV} {d : List PyData} {v : List Value}, Dts H p d → VRs Z p v → ∃ as, ReadsAll h v d as
  | _, _, _, .nil, hv => by cases hv; exact ⟨_, .nil⟩
  | _, _, _, .cons a r, hv => by
      cases hv with
      | cons b k =>
        obtain ⟨_, x⟩ := Dt.reads S a b
        obtain ⟨_, y⟩ := Dts.reads S r k
        exact ⟨_, .cons x y⟩
end
end
noncomputable def eqW (a b : PV) (H : LH) (Q : Bool → Prop) : Prop :=
  match a, b with
  | .int i, .int j => Q (i == j)
  | .str x, .str y => Q (x == y)
  | a, b => ∃ da db, Dt H a da ∧ Dt H b db ∧ SeqAt.shaped da = true ∧ SeqAt.shaped db = true ∧ Q (PyData.eqv da db)
noncomputable def ordW (f : Int → Int → Bool) (a b : PV) (Q : Bool → Prop) : Prop :=
  match a, b with
  | .int i, .int j => Q (f i j)
  | _, _ => False
noncomputable def memW (a b : PV) (Q : Bool → Prop) : Prop :=
  match a, b with
  | .str y, .str x => Q (!(Builtin.Str.occurrences x y 0 x.length 1).isEmpty)
  | _, _ => False
noncomputable def isW (a b : PV) (Q : Bool → Prop) : Prop :=
  match b with
  | .none => (match a with
    | .none => Q true
    | .bool _ => Q false
    | _ => False)
  | _ => False
noncomputable def cmpW (op : CmpOp) (a b : PV) (H : LH) (Q : Bool → Prop) : Prop :=
  match op with
  | .Eq => eqW a b H Q
  | .NotEq => eqW a b H fun c => Q (!c)
  | .Lt => ordW (fun i j => decide (i < j)) a b Q
  | .LtE => ordW (fun i j => decide (i ≤ j)) a b Q
  | .Gt => ordW (fun i j => decide (i > j)) a b Q
  | .GtE => ordW (fun i j => decide (i ≥ j)) a b Q
  | .In => memW a b Q
  | .Is => isW a b Q
  | _ => False
section
variable {h₀ : Heap} {prog : Program} {w : World} {n : Nat} {env : Env}
theorem cmp_ok {A : Around} {op : CmpOp} {loc : Loc} {Z : Zm} {H : LH} {s : Shared} {a b : PV} {x y : Value} {Q : Bool → Prop} {Q' : Value → Shared → Prop} {E : Value → Shared → Prop} (rm : Rm n A) (S : Sat h₀ Z env loc H s.heap) (va : VR Z a x) (vb : VR Z b y) (f : cmpW op a b H Q)
    (q : ∀ c, Q c → Q' (.bool c) s) : wpAny (model prog w) A (compareOp op x y) Q' E s := by
  have hu : A.units + 64 < cLine := by have := rm.un; (first | lia | omega)
  have ord : ∀ {g : Int → Int → Bool}, ordW g a b Q → ∃ i j t u, a = .int i ∧ b = .int j ∧ x = .int i t ∧ y = .int j u ∧ Q (g i j) := fun {g} h => by
    unfold ordW at h
    split at h
    · cases va with | int _ t => cases vb with | int _ u => exact ⟨_, _, t, u, rfl, rfl, rfl, rfl, h⟩
    · exact h.elim
  cases op with
  | Eq =>
    change eqW a b H Q at f
    unfold eqW at f
    split at f
    · cases va with | int i t => cases vb with | int j u => exact P.eq_int (q _ f)
    · cases va with | str i t => cases vb with | str j u => exact PyProof.Rows.eq_str (q _ f)
    · obtain ⟨da, db, ha, hb, sa, sb, f⟩ := f
      obtain ⟨_, ra⟩ := ha.reads S va
      obtain ⟨_, rb⟩ := hb.reads S vb
      exact SeqAt.compareEq_shaped ra rb sa sb hu (q _ f)
  | NotEq =>
    change eqW a b H (fun c => Q (!c)) at f
    unfold eqW at f
    split at f
    · cases va with | int i t => cases vb with | int j u => exact P.ne_int (q _ f)
    · cases va with | str i t => cases vb with | str j u => exact PyProof.Rows.ne_str (q _ f)
    · obtain ⟨da, db, ha, hb, sa, sb, f⟩ := f
      obtain ⟨_, ra⟩ := ha.reads S va
      obtain ⟨_, rb⟩ := hb.reads S vb
      exact SeqAt.compareNe_shaped ra rb sa sb hu (q _ f)
  | Lt => obtain ⟨i, j, t, u, rfl, rfl, rfl, rfl, f⟩ := ord f; exact P.lt_int (q _ f)
  | LtE => obtain ⟨i, j, t, u, rfl, rfl, rfl, rfl, f⟩ := ord f; exact P.le_int (q _ f)
  | Gt => obtain ⟨i, j, t, u, rfl, rfl, rfl, rfl, f⟩ := ord f; exact P.gt_int (q _ f)
  | GtE => obtain ⟨i, j, t, u, rfl, rfl, rfl, rfl, f⟩ := ord f; exact P.ge_int (q _ f)
  | In =>
    change memW a b Q at f
    unfold memW at f
    split at f
    · cases va with | str i t => cases vb with | str j u => exact PyProof.Rows.in_str (q _ f)
    · exact f.elim
  | Is =>
    cases b with
    | none =>
      cases vb
      cases va with
      | none => exact is_none (q _ f)
      | bool c => exact is_none (q _ f)
      | _ => exact f.elim
    | _ => exact f.elim
  | _ => exact f.elim
theorem ev_cmp {l r : Expr} {op : CmpOp} {pos : Pos} {fl fr : ET} (hl : EvOk h₀ prog w n env l fl) (hr : EvOk h₀ prog w n env r fr) (hm : behindInMarks op r = false := by with_unfolding_all rfl) :
    EvOk h₀ prog w n env (.Compare l [op] [r] pos) (fun σ Q => fl σ fun a H₁ => fr ⟨σ.loc, H₁⟩ fun b H₂ => cmpW op a b H₂ fun c => Q (.bool c) H₂) := by
  intro A Z loc H s Q Q' E rm S f q
  refine wpAny_Compare1 (hl A Z loc H s _ _ _ rm S f fun x a Z₁ H₁ s₁ k₁ va f₁ => ?_) hm
  refine hr A Z₁ loc H₁ s₁ _ _ _ rm k₁.sat f₁ fun y b Z₂ H₂ s₂ k₂ vb f₂ => ?_
  exact cmp_ok rm k₂.sat (va.mono k₂.fz.1) vb f₂ fun c hc => q _ _ _ _ _ (k₁.trans k₂) (.bool c) hc
theorem bt_cmp {l r : Expr} {op : CmpOp} {pos : Pos} {fl fr : ET} (hl : EvOk h₀ prog w n env l fl) (hr : EvOk h₀ prog w n env r fr) (hm : behindInMarks op r = false := by with_unfolding_all rfl) :
    BtOk h₀ prog w n env (.Compare l [op] [r] pos) (fun σ Q => fl σ fun a H₁ => fr ⟨σ.loc, H₁⟩ fun b H₂ => cmpW op a b H₂ fun c => Q c H₂) := by
  intro A Z loc H s Q Q' E rm S f q
  refine wpAny_isTrue_Compare1 (hl A Z loc H s _ _ _ rm S f fun x a Z₁ H₁ s₁ k₁ va f₁ => ?_) hm
  refine hr A Z₁ loc H₁ s₁ _ _ _ rm k₁.sat f₁ fun y b Z₂ H₂ s₂ k₂ vb f₂ => ?_
  exact cmp_ok rm k₂.sat (va.mono k₂.fz.1) vb f₂ fun c hc => wpAny_truthy_bool (q _ _ _ _ (k₁.trans k₂) hc)
noncomputable def truthW (a : PV) (H : LH) (Q : Bool → Prop) : Prop :=
  match a with
  | .bool b => Q b
  | .int i => Q (i != 0)
  | .none => Q false
  | .str x => x.length < 2 ^ 62 ∧ Q (x.length != 0)
  | a => ∃ xs, lstOf H a = some xs ∧ xs.length < 2 ^ 62 ∧ Q (!xs.isEmpty)
theorem truth_ok {A : Around} {loc : Loc} {Z : Zm} {H : LH} {s : Shared} {a : PV} {x : Value} {Q : Bool → Prop} {Q' : Bool → Shared → Prop} {E : Value → Shared → Prop} (S : Sat h₀ Z env loc H s.heap) (va : VR Z a x) (f : truthW a H Q)
    (q : ∀ c tk, Q c → Q' c { s with toks := tk }) : wpAny (model prog w) A (truthy x) Q' E s := by
  unfold truthW at f
  split at f
  · cases va with | bool b => exact wpAny_truthy_bool (q _ s.toks f)
  · cases va with | int i t => exact P.truthy_int (q _ s.toks f)
  · cases va with | none => exact truthy_none (q _ s.toks f)
  · rename_i y
    cases va with
    | str _ t =>
      refine P.truthy_str (by have := f.1; (first | lia | omega)) (q _ _ ?_)
      have e : ((y.length : Int) != 0) = (y.length != 0) := by
        cases h : y.length with
        | zero => rfl
        | succ k => simp; (first | lia | omega)
      rw [e]; exact f.2
  · obtain ⟨xs, hx, hsz, f⟩ := f
    obtain ⟨l, vs, rfl, hl, r⟩ := lst_isList S va hx
    refine wpAny_truthy_list hl (by simp [r.length]; (first | lia | omega)) ?_
    have e : vs.isEmpty = xs.isEmpty := by
      cases r with
      | nil => rfl
      | cons _ _ => rfl
    rw [← e] at f
    simpa using q _ _ f
/-- any expression as a test -/
theorem bt_val {e : Expr} {fe : ET} (he : EvOk h₀ prog w n env e fe) (hv : isTrue e env (eval e env) = (do let v ← eval e env; standAt e.pos; holding [v] (truthy v)) := by rfl) :
    BtOk h₀ prog w n env e (fun σ Q => fe σ fun a H₁ => truthW a H₁ fun c => Q c H₁) := by
  intro A Z loc H s Q Q' E rm S f q
  refine wpAny_isTrue_value (he A Z loc H s _ _ _ rm S f fun x a Z₁ H₁ s₁ k₁ va f₁ => ?_) hv
  exact truth_ok k₁.sat va f₁ fun c tk hc => q _ _ _ _ (k₁.trans (Ke.toks k₁.sat tk)) hc
theorem bt_not {e : Expr} {pos : Pos} {fe : BT} (he : BtOk h₀ prog w n env e fe) : BtOk h₀ prog w n env (.UnaryOp .Not e pos) (fun σ Q => fe σ fun c H₁ => Q (!c) H₁) := by
  intro A Z loc H s Q Q' E rm S f q
  exact wpAny_isTrue_Not (he A Z loc H s _ _ _ rm S f fun c Z₁ H₁ s₁ k₁ f₁ => q _ _ _ _ k₁ f₁)
noncomputable def AtOk (h₀ : Heap) (prog : Program) (w : World) (n : Nat) (env : Env) (op : BoolOp) (es : List Expr) (F : BT) : Prop :=
  ∀ (A : Around) (Z : Zm) (loc : Loc) (H : LH) (s : Shared) (Q : Bool → LH → Prop) (Q' : Bool → Shared → Prop) (E : Value → Shared → Prop),
    Rm n A → Sat h₀ Z env loc H s.heap → F ⟨loc, H⟩ Q →
    (∀ b Z' H' s', Ke h₀ env loc Z H s Z' H' s' → Q b H' → Q' b s') → wpAny (model prog w) A (allTrue op es env) Q' E s
theorem at_and_nil : AtOk h₀ prog w n env .And [] (fun σ Q => Q true σ.H) := fun _ _ _ _ _ _ _ _ _ S f q => wpAny_allTrue_And_nil (q _ _ _ _ (Ke.refl S) f)
theorem at_or_nil : AtOk h₀ prog w n env .Or [] (fun σ Q => Q false σ.H) := fun _ _ _ _ _ _ _ _ _ S f q => wpAny_allTrue_Or_nil (q _ _ _ _ (Ke.refl S) f)
theorem at_and_cons {e : Expr} {r : List Expr} {fe fr : BT} (he : BtOk h₀ prog w n env e fe) (hr : AtOk h₀ prog w n env .And r fr) :
    AtOk h₀ prog w n env .And (e :: r) (fun σ Q => fe σ fun c H₁ => if c then fr ⟨σ.loc, H₁⟩ Q else Q false H₁) := by
  intro A Z loc H s Q Q' E rm S f q
  refine wpAny_allTrue_And_cons (he A Z loc H s _ _ _ rm S f fun c Z₁ H₁ s₁ k₁ f₁ => ?_)
  cases c with
  | true => exact hr A Z₁ loc H₁ s₁ Q Q' E rm k₁.sat f₁ fun _ _ _ _ k f => q _ _ _ _ (k₁.trans k) f
  | false => exact q _ _ _ _ k₁ f₁
theorem at_or_cons {e : Expr} {r : List Expr} {fe fr : BT} (he : BtOk h₀ prog w n env e fe) (hr : AtOk h₀ prog w n env .Or r fr) :
    AtOk h₀ prog w n env .Or (e :: r) (fun σ Q => fe σ fun c H₁ => if c then Q true H₁ else fr ⟨σ.loc, H₁⟩ Q) := by
  intro A Z loc H s Q Q' E rm S f q
  refine wpAny_allTrue_Or_cons (he A Z loc H s _ _ _ rm S f fun c Z₁ H₁ s₁ k₁ f₁ => ?_)
  cases c with
  | true => exact q _ _ _ _ k₁ f₁
  | false => exact hr A Z₁ loc H₁ s₁ Q Q' E rm k₁.sat f₁ fun _ _ _ _ k f => q _ _ _ _ (k₁.trans k) f
theorem bt_bool {op : BoolOp} {es : List Expr} {pos : Pos} {F : BT} (h : AtOk h₀ prog w n env op es F) : BtOk h₀ prog w n env (.BoolOp op es pos) F :=
  fun A Z loc H s Q Q' E rm S f q => wpAny_isTrue_BoolOp (h A Z loc H s Q Q' E rm S f q)
end
end Mine
end
section
namespace Mine
/-- xs[lo:hi] -/
noncomputable def cut {α : Type} (xs : List α) (lo hi : Option Int) : List α := (xs.drop (lo.elim 0 (clipAt xs.length))).take (hi.elim xs.length (clipAt xs.length) - lo.elim 0 (clipAt xs.length))
noncomputable def scut (x : Str) (lo hi : Option Int) : Str := ⟨(cut x.cps.toList lo hi).toArray⟩
theorem clipAt_le (n : Nat) (i : Int) : clipAt n i ≤ n := by
  unfold clipAt
  exact Int.toNat_le.mpr (Int.max_le.mpr ⟨Int.natCast_nonneg n, Int.min_le_right _ _⟩)
theorem strSlice_plain (lo hi : Option Int) (n : Nat) : Builtin.Str.strSliceIndices lo hi 1 n = (List.range (hi.elim n (clipAt n) - lo.elim 0 (clipAt n))).map (lo.elim 0 (clipAt n) + ·) := by
  rw [← sliceRange_one]
  unfold Builtin.Str.strSliceIndices
  cases lo <;> cases hi <;> simp [clipAt_cast]
theorem txt_slice (x : Str) (lo hi : Option Int) : Txt.slice x lo hi = scut x lo hi := by
  unfold Txt.slice scut cut
  have hl : x.length = x.cps.toList.length := by simp [Str.length]
  rw [strSlice_plain, pick_run]
  by_cases h : ((1 : Int) == 1 && ((List.range (hi.elim x.length (clipAt x.length) - lo.elim 0 (clipAt x.length))).map (lo.elim 0 (clipAt x.length) + ·)).length == x.length) = true
  · rw [if_pos h]
    simp only [List.length_map, List.length_range, beq_self_eq_true, Bool.true_and, beq_iff_eq] at h
    have h1 : lo.elim 0 (clipAt x.length) = 0 ∨ x.length = 0 := by
      have : hi.elim x.length (clipAt x.length) ≤ x.length := by cases hi with | none => exact Nat.le_refl _ | some i => exact clipAt_le _ _
      (first | lia | omega)
    rw [hl] at h h1
    rcases h1 with h1 | h1
    · rw [h1] at h ⊢
      rw [List.drop_zero, h, List.take_length]
    · have : x.cps.toList = [] := List.eq_nil_of_length_eq_zero h1
      have hx : x.cps = #[] := by simpa using this
      cases x with
      | mk c => simp only at hx; subst hx; simp
  · rw [if_neg h, ← hl]
noncomputable def idxW (a i : PV) (H : LH) (Q : PV → LH → Prop) : Prop :=
  match a, i with
  | .str x, .int k => (-(2 ^ 63) ≤ k ∧ k < 2 ^ 63) ∧ ∃ c, (seqIndex? k x.length).bind (x.cps[·]?) = some c ∧ Q (.str ⟨#[c]⟩) H
  | .tup xs, .int k => (-(2 ^ 63) ≤ k ∧ k < 2 ^ 63) ∧ ∃ p, (seqIndex? k xs.length).bind (xs[·]?) = some p ∧ Q p H
  | a, .int k => (-(2 ^ 63) ≤ k ∧ k < 2 ^ 63) ∧ ∃ xs p, lstOf H a = some xs ∧ (seqIndex? k xs.length).bind (xs[·]?) = some p ∧ Q p H
  | _, _ => False
section
variable {h₀ : Heap} {prog : Program} {w : World} {n : Nat} {env : Env}
theorem list_get {A : Around} {s : Shared} {l : Addr} {vs : List Value} {k : Int} {t : Tok} {j : Nat} {v : Value} {Q : Value → Shared → Prop} {E : Value → Shared → Prop} (hl : s.heap.IsList l vs.toArray) (hlo : -(2 ^ 63) ≤ k) (hhi : k < 2 ^ 63)
    (hj : seqIndex? k vs.length = some j) (hv : vs[j]? = some v) (h : Q v s) : wpAny (model prog w) A (getItem (.ref l) (.int k t)) Q E s := by
  unfold seqIndex? at hj
  by_cases h0 : k < 0
  · simp only [if_pos h0] at hj
    split at hj
    · rename_i hc
      simp only [Bool.and_eq_true, decide_eq_true_eq] at hc
      cases hj
      refine wpAny_getItem_list_neg hl h0 (by simp only [List.size_toArray]; (first | lia | omega)) hlo (by simpa using hv) h
    · cases hj
  · simp only [if_neg h0] at hj
    split at hj
    · rename_i hc
      simp only [Bool.and_eq_true, decide_eq_true_eq] at hc
      cases hj
      exact wpAny_getItem_list hl (by (first | lia | omega)) hhi (by simpa using hv) h
    · cases hj
theorem getItem_ok {A : Around} {loc : Loc} {Z : Zm} {H : LH} {s : Shared} {a i : PV} {x y : Value} {Q : PV → LH → Prop} {Q' : Value → Shared → Prop} {E : Value → Shared → Prop} (S : Sat h₀ Z env loc H s.heap) (va : VR Z a x) (vi : VR Z i y) (f : idxW a i H Q)
    (q : ∀ v p tk, VR Z p v → Q p H → Q' v { s with toks := tk }) :
    (∃ T id, s.TypeIs x T ∧ typeLookup (.type T) "__getitem__" = pure (some (.builtin id))) ∧ wpAny (model prog w) A (getItem x y) Q' E s := by
  unfold idxW at f
  split at f
  · cases va with
    | str _ t =>
      cases vi with
      | int _ u =>
        obtain ⟨⟨h1, h2⟩, c, hc, f⟩ := f
        exact ⟨⟨"str", _, typeIs_str s _ t, PySem.F.slot_str_getitem.lookup⟩, P.getItem_str (by simp; (first | lia | omega)) hc (q _ _ _ (.str _ _) f)⟩
  · cases vi with
    | int _ u =>
      obtain ⟨⟨h1, h2⟩, p, hp, f⟩ := f
      cases va with
      | tup z r =>
        obtain ⟨j, hj, hx⟩ := Option.bind_eq_some_iff.mp hp
        obtain ⟨v, hv, vr⟩ := r.get hx
        have ho := S.frz _ _ z
        have hT : IsTup s.heap _ _ := ⟨_, ho, rfl, _, rfl⟩
        exact ⟨⟨"tuple", _, hT.typeIs, PySem.F.slot_tuple_getitem.lookup⟩, PyProof.Rows.getItem_tuple hT h1 h2 (by rw [List.size_toArray, r.length]; exact hj) (by simpa using hv) (q _ _ s.toks vr f)⟩
  · cases vi with
    | int _ u =>
      obtain ⟨⟨h1, h2⟩, xs, p, hl, hp, f⟩ := f
      obtain ⟨l, vs, rfl, hL, r⟩ := lst_isList S va hl
      obtain ⟨j, hj, hx⟩ := Option.bind_eq_some_iff.mp hp
      obtain ⟨v, hv, vr⟩ := r.get hx
      exact ⟨⟨"list", _, hL.typeIs, slot_list_getitem.lookup⟩, list_get hL h1 h2 (by rw [r.length]; exact hj) hv (q _ _ s.toks vr f)⟩
  · exact f.elim
theorem ev_idx {e i : Expr} {pos : Pos} {fe fi : ET} (he : EvOk h₀ prog w n env e fe) (hi : EvOk h₀ prog w n env i fi) (hs : ∀ o v, subscripted i false o v = operate [o, v] (getItem o v) := by intro _ _; rfl) :
    EvOk h₀ prog w n env (.Subscript e i pos) (fun σ Q => fe σ fun a H₁ => fi ⟨σ.loc, H₁⟩ fun b H₂ => idxW a b H₂ Q) := by
  intro A Z loc H s Q Q' E rm S f q
  refine Subscript_ (he A Z loc H s _ _ _ rm S f fun x a Z₁ H₁ s₁ k₁ va f₁ => ?_)
  refine hi A Z₁ loc H₁ s₁ _ _ _ rm k₁.sat f₁ fun y b Z₂ H₂ s₂ k₂ vb f₂ => ?_
  obtain ⟨⟨T, id, hT, hl⟩, hg⟩ := getItem_ok (prog := prog) (w := w) (A := A) (Q' := Q') (E := E) k₂.sat (va.mono k₂.fz.1) vb f₂ fun v p tk hv hq => q _ _ _ _ _ (k₁.trans (k₂.trans (Ke.toks k₂.sat tk))) hv hq
  exact tail_any hT hl hg (hs _ _)
/-- a slice's part -/
inductive Pt (Z : Zm) : Option Int → Value → Prop
  | none : Pt Z Option.none .none
  | int (i : Int) (t : Tok) : Pt Z (some i) (.int i t)
abbrev OT := St → (Option Int → LH → Prop) → Prop
noncomputable def PtOk (h₀ : Heap) (prog : Program) (w : World) (n : Nat) (env : Env) (e : Option Expr) (F : OT) : Prop :=
  ∀ (A : Around) (Z : Zm) (loc : Loc) (H : LH) (s : Shared) (Q : Option Int → LH → Prop) (Q' : Value → Shared → Prop) (E : Value → Shared → Prop),
    Rm n A → Sat h₀ Z env loc H s.heap → F ⟨loc, H⟩ Q →
    (∀ v p Z' H' s', Ke h₀ env loc Z H s Z' H' s' → Pt Z' p v → Q p H' → Q' v s') → wpAny (model prog w) A (evalPart e env) Q' E s
theorem pt_none : PtOk h₀ prog w n env none (fun σ Q => Q none σ.H) := fun _ _ _ _ _ _ _ _ _ S f q => wpAny_evalPart_none (q _ _ _ _ _ (Ke.refl S) .none f)
theorem pt_some {e : Expr} {fe : ET} (he : EvOk h₀ prog w n env e fe) : PtOk h₀ prog w n env (some e) (fun σ Q => fe σ fun a H₁ => ∃ i, a = .int i ∧ Q (some i) H₁) := by
  intro A Z loc H s Q Q' E rm S f q
  refine wpAny_evalPart_some (he A Z loc H s _ _ _ rm S f fun x a Z₁ H₁ s₁ k₁ va f₁ => ?_)
  obtain ⟨i, rfl, f₁⟩ := f₁
  cases va with | int i t => exact q _ _ _ _ _ k₁ (.int i t) f₁
noncomputable def cutW (a : PV) (lo hi : Option Int) (H : LH) (Q : PV → LH → Prop) : Prop :=
  match a with
  | .str x => x.length ≤ sizeLine ∧ Q (.str (scut x lo hi)) H
  | a => ∃ xs, lstOf H a = some xs ∧ xs.length ≤ sizeLine ∧ listW (cut xs lo hi) H Q
theorem VRs.cut {Z : Zm} {xs : List PV} {vs : List Value} (r : VRs Z xs vs) (lo hi : Option Int) : VRs Z (cut xs lo hi) (cut vs lo hi) := by
  unfold Mine.cut
  rw [r.length]
  exact (r.drop _).take _
theorem Pt.part {Z : Zm} {p : Option Int} {v : Value} (h : Pt Z p v) : ∃ q : Option (Int × Tok), v = partValue q ∧ q.map (·.1) = p := by
  cases h with
  | none => exact ⟨Option.none, rfl, rfl⟩
  | int i t => exact ⟨some (i, t), rfl, rfl⟩
theorem Pt.isPart {Z : Zm} {p : Option Int} {v : Value} (h : Pt Z p v) : IsPart v p := by
  cases h with
  | none => exact .none
  | int i t => exact .int i t
theorem ev_cut {e : Expr} {lo hi : Option Expr} {p pos : Pos} {fe : ET} {fl fh : OT} (he : EvOk h₀ prog w n env e fe) (hl : PtOk h₀ prog w n env lo fl) (hh : PtOk h₀ prog w n env hi fh) :
    EvOk h₀ prog w n env (.Subscript e (.Slice lo hi none p) pos) (fun σ Q => fe σ fun a H₁ => fl ⟨σ.loc, H₁⟩ fun i H₂ => fh ⟨σ.loc, H₂⟩ fun j H₃ => cutW a i j H₃ Q) := by
  intro A Z loc H s Q Q' E rm S f q
  refine Subscript_ (he A Z loc H s _ _ _ rm S f fun x a Z₁ H₁ s₁ k₁ va f₁ => wpAny_Slice ?_)
  refine hl A Z₁ loc H₁ s₁ _ _ _ rm k₁.sat f₁ fun y i Z₂ H₂ s₂ k₂ pi f₂ => ?_
  refine hh A Z₂ loc H₂ s₂ _ _ _ rm k₂.sat f₂ fun z j Z₃ H₃ s₃ k₃ pj f₃ => ?_
  refine wpAny_evalPart_none ?_
  have kk := k₁.trans (k₂.trans k₃)
  have va' := (va.mono k₂.fz.1).mono k₃.fz.1
  have kp := Kp.push s₃ { cls := .type "slice", data := .fields #[y, z, .none] }
  have k₄ := Ke.keep k₃.sat kp
  unfold cutW at f₃
  split at f₃
  · rename_i x
    cases va' with
    | str _ t =>
      obtain ⟨l, rfl, rfl⟩ := pi.part
      obtain ⟨u, rfl, rfl⟩ := pj.part
      refine tail_any (typeIs_str _ x t) PySem.F.slot_str_getitem.lookup (wpAny_getItem_str_slice (l := l) (u := u) (st := none) ⟨_, Heap.get?_push_size _ rfl, rfl, rfl⟩ rfl ?_) rfl
      refine post_val_or_str ⟨Nat.le_trans (Txt.slice_le x _ _) f₃.1, fun t' k => ?_⟩
      have e : (if ((Option.map (fun x => x.1) (none : Option (Int × Tok))).getD 1 == 1 && (slicePicked x l u none).length == x.length) = true then x else ⟨((slicePicked x l u none).filterMap (x.cps[·]?)).toArray⟩) = scut x (l.map (·.1)) (u.map (·.1)) := txt_slice x _ _
      rw [e]
      exact q _ _ _ _ _ (kk.trans (k₄.trans (Ke.toks k₄.sat k))) (.str _ t') f₃.2
  · obtain ⟨xs, hx, hsz, f₃⟩ := f₃
    obtain ⟨l, vs, rfl, hL, r⟩ := lst_isList k₃.sat va' hx
    refine tail_any (hL.push _).typeIs slot_list_getitem.lookup (wpAny_getItem_list_slice (hL.push _) (Heap.IsSliceOf.new ..) pi.isPart pj.isPart .none (by simp) ?_ (by simp [r.length]; exact hsz)) rfl
    have e : slicePick vs.toArray i j none = (cut vs i j).toArray := by rw [slicePick_plain]; simp [cut]
    rw [e]
    exact list_new k₄.sat f₃ (fun _ _ _ _ _ k v f => q _ _ _ _ _ (kk.trans (k₄.trans k)) v f) (Kp.push _ _) (get_size _) (Heap.get?_push_size _ rfl) (r.cut i j)
end
end Mine
end
section
namespace Mine
/-- the ground: the text's own objects, its names, the built-in names -/
structure Gr (K : Frag) (h₀ : Heap) : Prop where
  X : K.In h₀
  g : ∃ mg, h₀.Ns mainGlobals mg
  b : ∃ mb, h₀.Ns builtinsNs mb ∧ ∀ x : Str, x ≠ "__name__" → mb x = bootBuiltins x
  nl : h₀.NoLimit
section
variable {K : Frag} {h₀ : Heap} {prog : Program} {w : World} {n : Nat} {env : Env}
theorem Sat.keep {Z : Zm} {loc : Loc} {H : LH} {h : Heap} (S : Sat h₀ Z env loc H h) : ∀ b o, h₀.get? b = some o → h.get? b = some o := fun b o e => S.frz b o (S.base b o e)
noncomputable def NmOk (h₀ : Heap) (prog : Program) (w : World) (env : Env) (e : Expr) (fv : Value) : Prop :=
  ∀ (A : Around) (Z : Zm) (loc : Loc) (H : LH) (s : Shared) (Q' : Value → Shared → Prop) (E : Value → Shared → Prop), Sat h₀ Z env loc H s.heap → Q' fv s → wpAny (model prog w) A (eval e env) Q' E s
theorem nm_glob {x : Str} {pos : Pos} {v : Value} (G : Gr K h₀) (e : nsIn K mainGlobals x = some (some v)) (hx : env.kindOf x = some .globalImplicit) (hg : env.globals = mainGlobals) (hd : (x == ("__debug__" : Str)) = false) :
    NmOk h₀ prog w env (.Name x pos) v := fun A Z loc H s Q' E S q => by
  obtain ⟨mg, g⟩ := G.g
  exact Name_function_global S.kind hx (loadGlobal_global (by rw [hg]; exact g.keeps S.keep) (mg_of G.X g e) q) hd
theorem nm_boot {x : Str} {pos : Pos} {v : Value} (G : Gr K h₀) (e : nsIn K mainGlobals x = some none) (hv : bootBuiltins x = some v) (hn : x ≠ "__name__") (hx : env.kindOf x = some .globalImplicit) (hg : env.globals = mainGlobals) (hb : env.builtins = builtinsNs) (hd : (x == ("__debug__" : Str)) = false) :
    NmOk h₀ prog w env (.Name x pos) v := fun A Z loc H s Q' E S q => by
  obtain ⟨mg, g⟩ := G.g
  obtain ⟨mb, b, hb'⟩ := G.b
  exact Name_function_global S.kind hx (loadGlobal_builtin (by rw [hg]; exact g.keeps S.keep) (mg_none_of G.X g e) (by rw [hb]; exact b.keeps S.keep) ((hb' x hn).trans hv) q) hd
/-- what keeps a called thing -/
noncomputable def KprOk (h₀ : Heap) (prog : Program) (w : World) (fv : Value) : Prop := ∀ h : Heap, (∀ b o, h₀.get? b = some o → h.get? b = some o) → ∃ k, (k = Keeper.frame ∨ k = Keeper.machine ∨ k = Keeper.boundFrame) ∧ Looks (model prog w) h (keeperOf fv) k
theorem kpr_builtin (id : String) : KprOk h₀ prog w (.builtin id) := fun _ _ => ⟨.machine, .inr (.inl rfl), Looks.of_pure rfl⟩
theorem kpr_type (id : String) : KprOk h₀ prog w (.type id) := fun _ _ => ⟨.machine, .inr (.inl rfl), Looks.of_pure rfl⟩
theorem kpr_K {f : Value} (G : Gr K h₀) (hk : keepIn K f = true) : KprOk h₀ prog w f := fun h k => keeps_K hk h (G.X.keeps k)
/-- a call with the arguments' values -/
theorem callWith_ok {A : Around} {Z : Zm} {loc : Loc} {H : LH} {s : Shared} {pos : Pos} {fv : Value} {first : List Value} {e : Expr} {rest : List Expr} {F : EsT} {Q : List PV → LH → Prop} {Q' : Value → Shared → Prop} {E : Value → Shared → Prop}
    (hk : KprOk h₀ prog w fv) (hes : EsOk h₀ prog w n env (e :: rest) F) (rm : Rm n A) (S : Sat h₀ Z env loc H s.heap) (f : F ⟨loc, H⟩ Q)
    (q : ∀ vs ps Z' H' s', Ke h₀ env loc Z H s Z' H' s' → VRs Z' ps vs → Q ps H' → wpAny (model prog w) A (call fv (first ++ vs)) Q' E s')
    (hs : starEach (e :: rest) env = (false, eval e env) :: starEach rest env) (hp : (backTo pos (starEach rest env)).any (·.1) = false) :
    wpAny (model prog w) A (callWith pos fv first (backTo pos (starEach (e :: rest) env)) []) Q' E s := by
  have key := hes A Z loc H s pos Q (fun vs s₁ => (∀ b o, h₀.get? b = some o → s₁.heap.get? b = some o) ∧ wpAny (model prog w) A (call fv (first ++ vs)) Q' E s₁) E rm S f
    fun vs ps Z' H' s' k v f' => ⟨k.sat.keep, q vs ps Z' H' s' k v f'⟩
  rw [hs] at key ⊢
  exact callWith_of (P := fun h => ∀ b o, h₀.get? b = some o → h.get? b = some o) (by show ((false || (backTo pos (starEach rest env)).any (·.1)) || false) = false; rw [hp]; rfl) (fun h k => hk h k) (PySem.Calls.evalArgs_plain key)
theorem ev_call {x : Str} {p pos : Pos} {fv : Value} {e : Expr} {rest : List Expr} {F : EsT} {W : List PV → LH → (PV → LH → Prop) → Prop}
    (hf : NmOk h₀ prog w env (.Name x p) fv) (hk : KprOk h₀ prog w fv) (hes : EsOk h₀ prog w n env (e :: rest) F)
    (hop : ∀ loc Z H s ps vs, Sat h₀ Z env loc H s.heap → VRs Z ps vs → OpOk h₀ prog w n env loc Z H s (call fv vs) (W ps H))
    (hs : starEach (e :: rest) env = (false, eval e env) :: starEach rest env := by rfl) (hp : (backTo pos (starEach rest env)).any (·.1) = false := by rfl)
    (he : eval (.Call (.Name x p) (e :: rest) [] pos) env = (do callWith pos (← eval (.Name x p) env) [] (backTo pos (starEach (e :: rest) env)) (backToKw pos (keywordEach [] env))) := by rfl) :
    EvOk h₀ prog w n env (.Call (.Name x p) (e :: rest) [] pos) (fun σ Q => F σ fun ps H₁ => W ps H₁ Q) := by
  intro A Z loc H s Q Q' E rm S f q
  refine Call_ (hf A Z loc H s _ _ S ?_) he
  refine callWith_ok hk hes rm S f (fun vs ps Z' H' s' k v f' => ?_) hs hp
  exact hop loc Z' H' s' ps vs k.sat v A Q Q' E rm f' fun _ _ _ _ _ k' v' f'' => q _ _ _ _ _ (k.trans k') v' f''
noncomputable def lenW (a : PV) (H : LH) (Q : Nat → Prop) : Prop :=
  match a with
  | .str x => x.length < 2 ^ 62 ∧ Q x.length
  | a => ∃ xs, lstOf H a = some xs ∧ xs.length < 2 ^ 62 ∧ Q xs.length
noncomputable def lenOp (ps : List PV) (H : LH) (Q : PV → LH → Prop) : Prop := ∃ a, ps = [a] ∧ lenW a H fun k => Q (.int k) H
theorem len_ok (loc : Loc) (Z : Zm) (H : LH) (s : Shared) (ps : List PV) (vs : List Value) (S : Sat h₀ Z env loc H s.heap) (v : VRs Z ps vs) : OpOk h₀ prog w n env loc Z H s (call (.builtin "len") vs) (lenOp ps H) := by
  rintro A Q Q' E rm ⟨a, rfl, f⟩ q
  cases v with
  | cons va r =>
    cases r
    unfold lenW at f
    split at f
    · cases va with | str _ t => exact P.len_str (by have := f.1; (first | lia | omega)) (q _ _ _ _ _ (Ke.toks S _) (.int _ _) f.2)
    · obtain ⟨xs, hx, hsz, f⟩ := f
      obtain ⟨l, vs, rfl, hl, r⟩ := lst_isList S va hx
      refine call_len_list hl (by simp [r.length]; (first | lia | omega)) ?_
      rw [List.size_toArray, r.length]
      exact q _ _ _ _ _ (Ke.toks S _) (.int _ _) f
noncomputable def chrOp (ps : List PV) (H : LH) (Q : PV → LH → Prop) : Prop := ∃ i : Int, ps = [.int i] ∧ 0 ≤ i ∧ i ≤ 0x10FFFF ∧ Q (.str ⟨#[i.toNat]⟩) H
theorem chr_ok (loc : Loc) (Z : Zm) (H : LH) (s : Shared) (ps : List PV) (vs : List Value) (S : Sat h₀ Z env loc H s.heap) (v : VRs Z ps vs) : OpOk h₀ prog w n env loc Z H s (call (.builtin "chr") vs) (chrOp ps H) := by
  rintro A Q Q' E rm ⟨a, rfl, h0, h1, f⟩ q
  cases v with
  | cons va r =>
    cases r
    cases va with
    | int _ t => exact P.chr_of_int (by simp; (first | lia | omega)) (q _ _ _ _ _ (Ke.toks S _) (.str _ _) f)
noncomputable def absOp (ps : List PV) (H : LH) (Q : PV → LH → Prop) : Prop := ∃ i : Int, ps = [.int i] ∧ Q (.int (if i < 0 then -i else i)) H
noncomputable def rangeOp (ps : List PV) (H : LH) (Q : PV → LH → Prop) : Prop :=
  match ps with
  | [.int b] => Q (.rng 0 b 1) H
  | [.int a, .int b] => Q (.rng a b 1) H
  | [.int a, .int b, .int c] => c ≠ 0 ∧ c.natAbs < 1073741824 ∧ Q (.rng a b c) H
  | _ => False
theorem rng_new {loc : Loc} {Z : Zm} {H : LH} {s s' : Shared} {r : Addr} {a b c : Int} {t u v : Tok} {Q : PV → LH → Prop} {Q' : Value → Shared → Prop} (S : Sat h₀ Z env loc H s.heap) (f : Q (.rng a b c) H)
    (q : ∀ v p Z' H' s', Ke h₀ env loc Z H s Z' H' s' → VR Z' p v → Q p H' → Q' v s') (hk : Kp s s') (ha : s.heap.get? r = none) (ho : s'.heap.get? r = some { cls := .type "range", dict := none, data := .fields #[.int a t, .int b u, .int c v], slots := #[] }) : Q' (.ref r) s' := by
  have K := Ke.frozen S hk ha ho
  exact q _ _ _ _ _ K (.rng (Zm.set_self _ _ _)) f
theorem Kp.pushT (s : Shared) (o : Obj) (tk : Nat) : Kp s { s with heap := s.heap.push o, toks := tk } := ⟨_, tk, rfl, fun _ _ e => Heap.get?_push_of_some _ e⟩
theorem range_ok (loc : Loc) (Z : Zm) (H : LH) (s : Shared) (ps : List PV) (vs : List Value) (S : Sat h₀ Z env loc H s.heap) (v : VRs Z ps vs) : OpOk h₀ prog w n env loc Z H s (call (.type "range") vs) (rangeOp ps H) := by
  intro A Q Q' E rm f q
  unfold rangeOp at f
  split at f
  · cases v with
    | cons va r => cases r; cases va with | int _ t => exact call_range_1 (rng_new S f q (Kp.pushT _ _ _) (get_size _) (Heap.get?_push_size _ rfl))
  · cases v with
    | cons va r =>
      cases r with
      | cons vb r => cases r; cases va with | int _ t => cases vb with | int _ u => exact call_range_2 (rng_new S f q (Kp.pushT _ _ _) (get_size _) (Heap.get?_push_size _ rfl))
  · cases v with
    | cons va r =>
      cases r with
      | cons vb r =>
        cases r with
        | cons vc r => cases r; cases va with | int _ t => cases vb with | int _ u => cases vc with | int _ x => exact call_range_3 f.1 (rng_new S f.2.2 q (Kp.pushT _ _ _) (get_size _) (Heap.get?_push_size _ rfl)) (.inl (PyProof.noPylong_small f.2.1))
  · exact f.elim
/-- the things that a loop goes over -/
noncomputable def rngInts (a b c : Int) : List Int := (List.range (Builtin.Range.rangeSize a b c).toNat).map fun (i : Nat) => a + (i : Int) * c
noncomputable def strSigns (x : Str) : List PV := x.cps.toList.map fun c => .str ⟨#[c]⟩
noncomputable def iterOf (H : LH) : PV → Option (List PV)
  | .str x => some (strSigns x)
  | .tup xs => some xs
  | .rng a b c => if Builtin.Range.small a b c then some ((rngInts a b c).map .int) else none
  | a => lstOf H a
/-- a walker over plain items -/
structure Wk (prog : Program) (w : World) (A : Around) (Z : Zm) (xs : List PV) (I : Addr) (fp wr : List Addr) (P : Nat → Value → Prop) (St : Nat → Heap → Prop) : Prop where
  walks : Walks prog w A I fp wr xs.length P St
  item : ∀ i v, P i v → ∃ p, xs[i]? = some p ∧ VR Z p v
theorem iter_ok {A : Around} {loc : Loc} {Z : Zm} {H : LH} {s : Shared} {a : PV} {x : Value} {xs : List PV} {Q' : Value → Shared → Prop} {E : Value → Shared → Prop} (rm : Rm n A) (S : Sat h₀ Z env loc H s.heap) (va : VR Z a x) (e : iterOf H a = some xs)
    (q : ∀ I fp wr P St s', Wk prog w A Z xs I fp wr P St → Kp s s' → St 0 s'.heap → s.heap.get? I = none → (∀ i h, St i h → ∃ o, h.get? I = some o) → wr = [I] → (∀ b ∈ fp, b = I ∨ .ref b = x) → (∀ b ∈ fp, b < s'.heap.objs.size) → Q' (.ref I) s') :
    wpAny (model prog w) A (pyIter x) Q' E s := by
  have fresh := get_size s.heap
  have hlt : ∀ o, s.heap.objs.size < (s.heap.push o).objs.size := fun o => by rw [Heap.size_push]; exact Nat.lt_succ_self _
  have lists : ∀ {l : Addr} {vs : List Value}, x = .ref l → s.heap.IsList l vs.toArray → VRs Z xs vs → wpAny (model prog w) A (pyIter x) Q' E s := by
    intro l vs hx hl r
    subst hx
    refine wpAny_pyIter_list hl ?_
    obtain ⟨ol, hol, _⟩ := id hl
    have hne : l ≠ s.heap.objs.size := Nat.ne_of_lt (Heap.lt_size hol)
    have W := Walks.list (prog := prog) (w := w) rm.hd s.heap.objs.size l hne vs.toArray
    have hn : vs.toArray.size = xs.length := by rw [List.size_toArray, r.length]
    rw [hn] at W
    refine q _ _ _ _ _ _ ⟨W, fun i v hp => r.get' (by simpa using hp)⟩ (Kp.push _ _) ⟨⟨_, Heap.get?_push_size _ rfl, rfl, rfl⟩, hl.at fun o e => Heap.get?_push_of_some _ e⟩ fresh (fun _ _ st => let ⟨o, e, _⟩ := st.1; ⟨o, e⟩) rfl ?_ ?_
    · intro b hb
      rcases List.mem_cons.mp hb with h | h
      · exact .inl h
      · exact .inr (by rw [List.mem_singleton.mp h])
    · intro b hb
      rcases List.mem_cons.mp hb with h | h
      · rw [h]; exact hlt _
      · rw [List.mem_singleton.mp h]; exact Nat.lt_trans (Heap.lt_size hol) (hlt _)
  cases va with
  | str y t =>
    cases e
    have hl : y.cps.size = (strSigns y).length := by simp [strSigns]
    have item : ∀ i v, SignAt y i v → ∃ p, (strSigns y)[i]? = some p ∧ VR Z p v := by
      rintro i v ⟨c, u, hc, rfl⟩
      exact ⟨.str ⟨#[c]⟩, by simp [strSigns, hc], .str _ u⟩
    cases ha : y.cps.all (· < 128) with
    | false =>
      have W := Walks.strWide (prog := prog) (w := w) rm.hd s.heap.objs.size y t
      rw [hl] at W
      exact wpAny_pyIter_wide ha (q _ _ _ _ _ _ ⟨W, item⟩ (Kp.push _ _) ⟨_, Heap.get?_push_size _ rfl, rfl, rfl⟩ fresh (fun _ _ st => let ⟨o, e, _⟩ := st; ⟨o, e⟩) rfl (fun b hb => .inl (List.mem_singleton.mp hb)) fun b hb => by rw [List.mem_singleton.mp hb]; exact hlt _)
    | true =>
      have W := Walks.strAscii (prog := prog) (w := w) rm.hd s.heap.objs.size y t
      rw [hl] at W
      exact wpAny_pyIter_ascii ha (q _ _ _ _ _ _ ⟨W, item⟩ (Kp.push _ _) ⟨_, Heap.get?_push_size _ rfl, rfl, rfl⟩ fresh (fun _ _ st => let ⟨o, e, _⟩ := st; ⟨o, e⟩) rfl (fun b hb => .inl (List.mem_singleton.mp hb)) fun b hb => by rw [List.mem_singleton.mp hb]; exact hlt _)
  | tup z r =>
    rename_i l vs k ys
    cases e
    have ho := S.frz _ _ z
    have hT : s.heap.IsTuple l vs.toArray := ⟨_, ho, rfl, _, rfl⟩
    refine wpAny_pyIter_tuple hT ?_
    have hne : l ≠ s.heap.objs.size := Nat.ne_of_lt (Heap.lt_size ho)
    have W := Walks.tuple (prog := prog) (w := w) rm.hd s.heap.objs.size l hne vs.toArray
    have hn : vs.toArray.size = xs.length := by rw [List.size_toArray, r.length]
    rw [hn] at W
    refine q _ _ _ _ _ _ ⟨W, fun i v hp => r.get' (by simpa using hp)⟩ (Kp.push _ _) ⟨⟨_, Heap.get?_push_size _ rfl, rfl, rfl⟩, hT.at fun o e => Heap.get?_push_of_some _ e⟩ fresh (fun _ _ st => let ⟨o, e, _⟩ := st.1; ⟨o, e⟩) rfl ?_ ?_
    · intro b hb
      rcases List.mem_cons.mp hb with h | h
      · exact .inl h
      · exact .inr (by rw [List.mem_singleton.mp h])
    · intro b hb
      rcases List.mem_cons.mp hb with h | h
      · rw [h]; exact hlt _
      · rw [List.mem_singleton.mp h]; exact Nat.lt_trans (Heap.lt_size ho) (hlt _)
  | rng z =>
    rename_i r a b c t u v
    change (if Builtin.Range.small a b c then some ((rngInts a b c).map PV.int) else none) = some xs at e
    split at e
    · rename_i hsm
      cases e
      have hr : IsRange s.heap r a b c t u v := S.frz _ _ z
      refine wpAny_pyIter_range hr hsm ?_
      have hpos : 0 ≤ Builtin.Range.rangeSize a b c := by
        unfold Builtin.Range.rangeSize
        split
        · split
          · have := Int.ediv_nonneg (a := b - a - 1) (b := c) (by (first | lia | omega)) (by (first | lia | omega)); (first | lia | omega)
          · (first | lia | omega)
        · split
          · have := Int.ediv_nonneg (a := a - b - 1) (b := -c) (by (first | lia | omega)) (by (first | lia | omega)); (first | lia | omega)
          · (first | lia | omega)
      have W := Walks.range (prog := prog) (w := w) rm.hd s.heap.objs.size a c (Builtin.Range.rangeSize a b c).toNat
      have W' := W.bound
      have hn : (Builtin.Range.rangeSize a b c).toNat = ((rngInts a b c).map PV.int).length := by simp [rngInts]
      rw [hn] at W'
      refine q _ _ _ _ _ _ ⟨W', fun i x hp => ?_⟩ (Kp.push _ _) ?_ fresh (fun _ _ st => ⟨_, st⟩) rfl (fun b hb => .inl (List.mem_singleton.mp hb)) fun b hb => by rw [List.mem_singleton.mp hb]; exact hlt _
      · obtain ⟨hi, t', rfl⟩ := hp
        rw [← hn] at hi
        exact ⟨.int (a + (i : Int) * c), by simp [rngInts, hi], .int _ _⟩
      · show IsRangeIter _ _ _ _ _
        rw [← hn]
        have e1 : ((Builtin.Range.rangeSize a b c).toNat : Int) - ((0 : Nat) : Int) = Builtin.Range.rangeSize a b c := by (first | lia | omega)
        have e2 : a + ((0 : Nat) : Int) * c = a := by simp
        rw [e1, e2]
        exact Heap.get?_push_size _ rfl
    · cases e
  | lst z r =>
    cases e
    exact lists rfl ⟨_, S.frz _ _ z, rfl, _, rfl⟩ r
  | ref a =>
    obtain ⟨l, vs, hx, hl, r⟩ := lst_isList S (VR.ref a) e
    exact lists hx hl r
  | _ => cases e
end
end Mine
end
section
namespace Mine
theorem toNat_inj {c d : Char} (h : c.toNat = d.toNat) : c = d := Char.toNat_inj.mp h
theorem map_toNat_inj : ∀ {a b : List Char}, a.map Char.toNat = b.map Char.toNat → a = b
  | [], [], _ => rfl
  | [], _ :: _, h => by cases h
  | _ :: _, [], h => by cases h
  | c :: a, d :: b, h => by
    simp only [List.map_cons, List.cons.injEq] at h
    rw [toNat_inj h.1, map_toNat_inj h.2]
theorem ofString_inj {a b : String} (h : Str.ofString a = Str.ofString b) : a = b := by
  rw [Str.ofString_eq_toList, Str.ofString_eq_toList] at h
  have h1 := congrArg (fun s => s.cps.toList) h
  simp only at h1
  exact String.toList_inj.mp (map_toNat_inj h1)
inductive Fl where
  | next
  | brk
  | cont
  | ret (p : PV)
inductive FlR (Z : Zm) : Fl → Flow → Prop
  | next : FlR Z .next .next
  | brk : FlR Z .brk .brk
  | cont : FlR Z .cont .cont
  | ret {p : PV} {v : Value} : VR Z p v → FlR Z (.ret p) (.ret v)
/-- what a statement leaves -/
structure Sk (h₀ : Heap) (env : Env) (loc : Loc) (Z : Zm) (H : LH) (s : Shared) (loc' : Loc) (Z' : Zm) (H' : LH) (s' : Shared) : Prop where
  sat : Sat h₀ Z' env loc' H' s'.heap
  sh : ∃ h' tk, s' = { s with heap := h', toks := tk }
  frm : ∀ b o, s.heap.get? b = some o → b ≠ env.locals → (∀ n, (n, b) ∉ env.cells) → (∀ xs, H b ≠ some ⟨true, xs⟩) → s'.heap.get? b = some o
  live : ∀ b o, s.heap.get? b = some o → ∃ o', s'.heap.get? b = some o'
  fz : Fresh s Z Z'
  fh : ∀ a l', H' a = some l' → (∃ l, H a = some l ∧ (l'.mu = true → l.mu = true)) ∨ s.heap.get? a = none
section
variable {h₀ : Heap} {env : Env} {loc loc₁ loc₂ : Loc} {Z Z' Z₁ Z₂ : Zm} {H H' H₁ H₂ : LH} {s s' s₁ s₂ : Shared}
theorem Sk.trans (a : Sk h₀ env loc Z H s loc₁ Z₁ H₁ s₁) (b : Sk h₀ env loc₁ Z₁ H₁ s₁ loc₂ Z₂ H₂ s₂) : Sk h₀ env loc Z H s loc₂ Z₂ H₂ s₂ where
  sat := b.sat
  sh := by
    obtain ⟨h, t, rfl⟩ := a.sh
    obtain ⟨h', t', rfl⟩ := b.sh
    exact ⟨h', t', rfl⟩
  frm := fun x o e h1 h2 h3 => b.frm x o (a.frm x o e h1 h2 h3) h1 h2 fun xs hx => by
    rcases a.fh x _ hx with ⟨l, hl, hm⟩ | hn
    · cases l with | mk mu ys => have := hm rfl; simp only at this; subst this; exact h3 ys hl
    · rw [hn] at e; cases e
  live := fun x o e => let ⟨o', e'⟩ := a.live x o e; b.live x o' e'
  fz := ⟨a.fz.1.trans b.fz.1, fun x h h' => by
    cases q : Z₁ x with
    | none =>
      have := b.fz.2 x q h'
      cases r : s.heap.get? x with
      | none => rfl
      | some o => obtain ⟨o', e'⟩ := a.live x o r; rw [this] at e'; cases e'
    | some o => exact a.fz.2 x h (by rw [q]; exact Option.some_ne_none o)⟩
  fh := fun x l' e => by
    rcases b.fh x l' e with ⟨l, hl, hm⟩ | hn
    · rcases a.fh x l hl with ⟨l₀, hl₀, hm₀⟩ | hn
      · exact .inl ⟨l₀, hl₀, fun h => hm₀ (hm h)⟩
      · exact .inr hn
    · refine .inr ?_
      cases r : s.heap.get? x with
      | none => rfl
      | some o => obtain ⟨o', e'⟩ := a.live x o r; rw [hn] at e'; cases e'
theorem Ke.sk (k : Ke h₀ env loc Z H s Z' H' s') : Sk h₀ env loc Z H s loc Z' H' s' where
  sat := k.sat
  sh := let ⟨h, t, e, _⟩ := k.kp; ⟨h, t, e⟩
  frm := fun _ _ e _ _ _ => k.kp.get e
  live := fun _ o e => ⟨o, k.kp.get e⟩
  fz := k.fz
  fh := fun a l' e => by
    cases q : H a with
    | none => exact .inr (k.fh.2 a q (by rw [e]; exact Option.some_ne_none _))
    | some l => rw [k.fh.1 a l q] at e; cases e; exact .inl ⟨_, rfl, fun h => h⟩
theorem Sk.refl (S : Sat h₀ Z env loc H s.heap) : Sk h₀ env loc Z H s loc Z H s := (Ke.refl S).sk
end
abbrev XT := St → (Fl → St → Prop) → Prop
noncomputable def ExOk (h₀ : Heap) (prog : Program) (w : World) (n : Nat) (env : Env) (st : Stmt) (F : XT) : Prop :=
  ∀ (A : Around) (Z : Zm) (loc : Loc) (H : LH) (s : Shared) (Q : Fl → St → Prop) (Q' : Flow → Shared → Prop) (E : Value → Shared → Prop),
    Rm n A → Sat h₀ Z env loc H s.heap → F ⟨loc, H⟩ Q →
    (∀ fl p loc' Z' H' s', Sk h₀ env loc Z H s loc' Z' H' s' → FlR Z' p fl → Q p ⟨loc', H'⟩ → Q' fl s') → wpAny (model prog w) A (exec st env) Q' E s
noncomputable def XsOk (h₀ : Heap) (prog : Program) (w : World) (n : Nat) (env : Env) (sts : List Stmt) (F : XT) : Prop :=
  ∀ (A : Around) (Z : Zm) (loc : Loc) (H : LH) (s : Shared) (Q : Fl → St → Prop) (Q' : Flow → Shared → Prop) (E : Value → Shared → Prop),
    Rm n A → Sat h₀ Z env loc H s.heap → F ⟨loc, H⟩ Q →
    (∀ fl p loc' Z' H' s', Sk h₀ env loc Z H s loc' Z' H' s' → FlR Z' p fl → Q p ⟨loc', H'⟩ → Q' fl s') → wpAny (model prog w) A (execs sts env) Q' E s
section
variable {h₀ : Heap} {prog : Program} {w : World} {n : Nat} {env : Env}
theorem xs_nil : XsOk h₀ prog w n env [] (fun σ Q => Q .next σ) := fun _ _ _ _ _ _ _ _ _ S f q => wpAny_execs_nil (q _ _ _ _ _ _ (Sk.refl S) .next f)
/-- one statement behind the other -/
noncomputable def seqT (fs fr : XT) : XT := fun σ Q => fs σ fun fl σ₁ => match fl with | .next => fr σ₁ Q | fl => Q fl σ₁
theorem seq_to {f g : XT} {σ : St} {Q : Fl → St → Prop} (σ₁ : St) (h1 : ∀ R : Fl → St → Prop, R .next σ₁ → f σ R) (h2 : g σ₁ Q) : seqT f g σ Q := h1 _ h2
theorem seq_ex {f g : XT} {σ : St} {Q : Fl → St → Prop} (I : St → Prop) (h1 : ∀ R : Fl → St → Prop, (∀ σ', I σ' → R .next σ') → f σ R) (h2 : ∀ σ', I σ' → g σ' Q) : seqT f g σ Q := h1 _ h2
theorem seq_or {f g : XT} {σ : St} {Q : Fl → St → Prop} (I : St → Prop) (h1 : ∀ R : Fl → St → Prop, (∀ σ', I σ' → R .next σ') → (∀ p σ', Q (.ret p) σ' → R (.ret p) σ') → f σ R) (h2 : ∀ σ', I σ' → g σ' Q) : seqT f g σ Q := h1 _ h2 fun _ _ h => h
theorem seq_ret {f g : XT} {σ : St} {Q : Fl → St → Prop} (σ₁ : St) {p : PV} (h1 : ∀ R : Fl → St → Prop, R (.ret p) σ₁ → f σ R) (h2 : Q (.ret p) σ₁) : seqT f g σ Q := h1 _ h2
theorem xs_cons {st : Stmt} {rest : List Stmt} {fs fr : XT} (hs : ExOk h₀ prog w n env st fs) (hr : XsOk h₀ prog w n env rest fr) :
    XsOk h₀ prog w n env (st :: rest) (seqT fs fr) := by
  intro A Z loc H s Q Q' E rm S f q
  refine wpAny_execs_cons (hs A Z loc H s _ _ _ rm S f fun fl p loc₁ Z₁ H₁ s₁ k₁ vf f₁ => ?_)
  cases vf with
  | next => exact hr A Z₁ loc₁ H₁ s₁ Q Q' E rm k₁.sat f₁ fun _ _ _ _ _ _ k v f => q _ _ _ _ _ _ (k₁.trans k) v f
  | brk => exact q _ _ _ _ _ _ k₁ .brk f₁
  | cont => exact q _ _ _ _ _ _ k₁ .cont f₁
  | ret v => exact q _ _ _ _ _ _ k₁ (.ret v) f₁
/-- a name stored -/
theorem store_ok {A : Around} {Z : Zm} {loc : Loc} {H : LH} {s : Shared} {x : String} {p : PV} {v : Value} {Q' : Unit → Shared → Prop} {E : Value → Shared → Prop} (S : Sat h₀ Z env loc H s.heap) (hv : VR Z p v)
    (hk : env.kindOf (Str.ofString x) = some .local ∨ (env.kindOf (Str.ofString x) = some .cell ∧ (env.cells.lookup (Str.ofString x)).isSome = true))
    (q : ∀ s', Sk h₀ env loc Z H s (loc.set x p) Z H s' → Q' () s') : wpAny (model prog w) A (storeName env (Str.ofString x) v) Q' E s := by
  obtain ⟨m, hm, hl⟩ := S.ns
  obtain ⟨oL, eL⟩ := S.nsAt
  have neZ : ∀ {a : Addr} {o : Obj}, Z a = some o → a ≠ env.locals := fun {a o} e h => by rw [h, S.nsZ] at e; cases e
  have neC : ∀ {n : Str} {c : Addr}, (n, c) ∈ env.cells → c ≠ env.locals := fun {n c} hc h => by
    obtain ⟨_, w, o, e, d⟩ := S.cellZ n c hc
    obtain ⟨o', es, ep, e', d', _⟩ := hm
    rw [h, e'] at e; cases e; rw [d'] at d; cases d
  have neH : ∀ {a : Addr} {l : LO}, H a = some l → a ≠ env.locals := fun {a l} e h => by
    obtain ⟨_, vs, k, e', _⟩ := S.obj a l e
    obtain ⟨o', es, ep, e'', d', _⟩ := hm
    rw [h, e''] at e'; cases e'; cases d'
  rcases hk with hk | ⟨hk, hc⟩
  · refine wpAny_storeName_local hk hm (fun h' hn hs => q _ ⟨⟨S.base, ?_, S.nsZ, ?_, S.cellN, S.kind, ⟨_, hn, ?_⟩, ?_⟩, ⟨h', _, rfl⟩, ?_, ?_, Fresh.refl s Z, fun a l' e => .inl ⟨l', e, fun h => h⟩⟩) (by rw [S.kind]; rfl)
    · exact fun a o e => (hs.2 a (neZ e)).trans (S.frz a o e)
    · intro n c hm'
      obtain ⟨z, w', o, e, d⟩ := S.cellZ n c hm'
      exact ⟨z, w', o, (hs.2 c (neC hm')).trans e, d⟩
    · intro y p' e
      by_cases hy : y = x
      · subst hy
        rw [Loc.set_self] at e; cases e
        exact .loc v hk (by simp) hv
      · rw [Loc.set_ne _ _ hy] at e
        cases hl y p' e with
        | loc v' a b c => exact .loc v' a (by rw [if_neg fun h => hy (ofString_inj h)]; exact b) c
        | cell c v' a b d g =>
          have hmem : (Str.ofString y, c) ∈ env.cells := by
            obtain ⟨l1, l2, h1, _⟩ := List.lookup_eq_some_iff.mp b
            rw [h1]; simp
          exact .cell c v' a b (d.sameBut hs (neC hmem)) g
    · intro a l e
      obtain ⟨z, vs, k, e', r⟩ := S.obj a l e
      exact ⟨z, vs, k, (hs.2 a (neH e)).trans e', r⟩
    · exact fun b o e h1 _ _ => (hs.2 b h1).trans e
    · intro b o e
      by_cases hb : b = env.locals
      · subst hb
        obtain ⟨o', _, _, e', _⟩ := hn
        exact ⟨o', e'⟩
      · exact ⟨o, (hs.2 b hb).trans e⟩
  · obtain ⟨c, hc⟩ := Option.isSome_iff_exists.mp hc
    have hmem : (Str.ofString x, c) ∈ env.cells := by
      obtain ⟨l1, l2, h1, _⟩ := List.lookup_eq_some_iff.mp hc
      rw [h1]; simp
    obtain ⟨zc, w₀, hw⟩ := S.cellZ _ _ hmem
    have ec := hw
    obtain ⟨oc, eoc, doc⟩ := hw
    have nZ : ∀ {a : Addr} {o : Obj}, Z a = some o → a ≠ c := fun {a o} e h => by rw [h, zc] at e; cases e
    have nH : ∀ {a : Addr} {l : LO}, H a = some l → a ≠ c := fun {a l} e h => by
      obtain ⟨_, vs, k, e', _⟩ := S.obj a l e
      rw [h, eoc] at e'; cases e'; cases doc
    have uniq : ∀ {n : Str}, (n, c) ∈ env.cells → n = Str.ofString x := fun {n} hn => by
      have nd := S.cellN
      have : ∀ {l : List (Str × Addr)}, (l.map (·.2)).Nodup → (n, c) ∈ l → (Str.ofString x, c) ∈ l → n = Str.ofString x := by
        intro l
        induction l with
        | nil => intro _ h _; cases h
        | cons a r ih =>
          intro nd h1 h2
          simp only [List.map_cons, List.nodup_cons] at nd
          rcases List.mem_cons.mp h1 with e1 | h1
          · rcases List.mem_cons.mp h2 with e2 | h2
            · rw [← e1] at e2; exact (congrArg Prod.fst e2).symm
            · exact absurd (List.mem_map.mpr ⟨_, h2, by rw [← e1]⟩) nd.1
          · rcases List.mem_cons.mp h2 with e2 | h2
            · exact absurd (List.mem_map.mpr ⟨_, h1, by rw [← e2]⟩) nd.1
            · exact ih nd.2 h1 h2
      exact this nd hn hmem
    refine wpAny_storeName_cell S.kind hk hc ec fun h' hn hs => q _ ⟨⟨S.base, ?_, S.nsZ, ?_, S.cellN, S.kind, ⟨m, hm.sameBut hs (Ne.symm (neC hmem)), ?_⟩, ?_⟩, ⟨h', s.toks, rfl⟩, ?_, ?_, Fresh.refl s Z, fun a l' e => .inl ⟨l', e, fun h => h⟩⟩
    · exact fun a o e => (hs.2 a (nZ e)).trans (S.frz a o e)
    · intro n c' hm'
      by_cases hcc : c' = c
      · subst hcc; exact ⟨zc, _, hn⟩
      · obtain ⟨z, w', o, e, d⟩ := S.cellZ n c' hm'
        exact ⟨z, w', o, (hs.2 c' hcc).trans e, d⟩
    · intro y p' e
      by_cases hy : y = x
      · subst hy
        rw [Loc.set_self] at e; cases e
        exact .cell c v (.inl hk) hc hn hv
      · rw [Loc.set_ne _ _ hy] at e
        cases hl y p' e with
        | loc v' a b c => exact .loc v' a b c
        | cell c' v' a b d g =>
          have hmem' : (Str.ofString y, c') ∈ env.cells := by
            obtain ⟨l1, l2, h1, _⟩ := List.lookup_eq_some_iff.mp b
            rw [h1]; simp
          have hne : c' ≠ c := fun h => hy (ofString_inj (uniq (h ▸ hmem')))
          exact .cell c' v' a b (d.sameBut hs hne) g
    · intro a l e
      obtain ⟨z, vs, k, e', r⟩ := S.obj a l e
      exact ⟨z, vs, k, (hs.2 a (nH e)).trans e', r⟩
    · exact fun b o e _ h2 _ => (hs.2 b fun h => h2 _ (h ▸ hmem)).trans e
    · intro b o e
      by_cases hb : b = c
      · subst hb
        obtain ⟨o', e', _⟩ := hn
        exact ⟨o', e'⟩
      · exact ⟨o, (hs.2 b hb).trans e⟩
end
end Mine
end
section
namespace Mine
/-- where a name of the frame's is kept -/
noncomputable def Stores (env : Env) (x : String) : Prop := env.kindOf (Str.ofString x) = some .local ∨ (env.kindOf (Str.ofString x) = some .cell ∧ (env.cells.lookup (Str.ofString x)).isSome = true)
section
variable {h₀ : Heap} {prog : Program} {w : World} {n : Nat} {env : Env}
theorem st_assign {x : String} {pos' pos : Pos} {e : Expr} {fe : ET} (he : EvOk h₀ prog w n env e fe) (hk : Stores env x)
    (hs : swapsWith e (some (.Name (Str.ofString x) pos')) pos.line env = pure false := by rfl) :
    ExOk h₀ prog w n env (.Assign [.Name (Str.ofString x) pos'] e pos) (fun σ Q => fe σ fun a H₁ => Q .next ⟨σ.loc.set x a, H₁⟩) := by
  intro A Z loc H s Q Q' E rm S f q
  refine wpAny_Assign_Name (he A Z loc H s _ _ _ rm S f fun v a Z₁ H₁ s₁ k₁ va f₁ => ?_) hs
  exact store_ok k₁.sat va hk fun s' k₂ => q _ _ _ _ _ _ (k₁.sk.trans k₂) .next f₁
theorem st_aug {x : String} {pos' pos : Pos} {op : Operator} {e : Expr} {fe : ET} (he : EvOk h₀ prog w n env e fe) (hk : Stores env x) (hn : (Str.ofString x == ("__classdict__" : Str)) = false) :
    ExOk h₀ prog w n env (.AugAssign (.Name (Str.ofString x) pos') op e pos) (fun σ Q => getW (σ.loc x) fun a => fe σ fun b H₁ => inW op a b H₁ fun c H₂ => Q .next ⟨σ.loc.set x c, H₂⟩) := by
  intro A Z loc H s Q Q' E rm S f q
  obtain ⟨p, e, f⟩ := f
  refine wpAny_AugAssign_Name (load_ok S e (fun v hv => ?_) hn)
  refine he A Z loc H s _ _ _ rm S f fun y b Z₁ H₁ s₁ k₁ vb f₁ => ?_
  refine in_ok op loc Z₁ H₁ s₁ p b v y k₁.sat (hv.mono k₁.fz.1) vb A _ _ _ rm f₁ fun z c Z₂ H₂ s₂ k₂ vc f₂ => ?_
  exact store_ok k₂.sat vc hk fun s' k₃ => q _ _ _ _ _ _ ((k₁.trans k₂).sk.trans k₃) .next f₂
theorem st_if {t : Expr} {b o : List Stmt} {pos : Pos} {ft : BT} {fb fo : XT} (ht : BtOk h₀ prog w n env t ft) (hb : XsOk h₀ prog w n env b fb) (ho : XsOk h₀ prog w n env o fo) :
    ExOk h₀ prog w n env (.If t b o pos) (fun σ Q => ft σ fun c H₁ => if c then fb ⟨σ.loc, H₁⟩ Q else fo ⟨σ.loc, H₁⟩ Q) := by
  intro A Z loc H s Q Q' E rm S f q
  refine wpAny_If (ht A Z loc H s _ _ _ rm S f fun c Z₁ H₁ s₁ k₁ f₁ => ?_)
  cases c with
  | true => exact hb A Z₁ loc H₁ s₁ Q Q' E rm k₁.sat f₁ fun _ _ _ _ _ _ k v f => q _ _ _ _ _ _ (k₁.sk.trans k) v f
  | false => exact ho A Z₁ loc H₁ s₁ Q Q' E rm k₁.sat f₁ fun _ _ _ _ _ _ k v f => q _ _ _ _ _ _ (k₁.sk.trans k) v f
theorem st_ret {e : Expr} {pos : Pos} {fe : ET} (he : EvOk h₀ prog w n env e fe) : ExOk h₀ prog w n env (.Return (some e) pos) (fun σ Q => fe σ fun a H₁ => Q (.ret a) ⟨σ.loc, H₁⟩) := by
  intro A Z loc H s Q Q' E rm S f q
  exact wpAny_Return_some (he A Z loc H s _ _ _ rm S f fun v a Z₁ H₁ s₁ k₁ va f₁ => q _ _ _ _ _ _ k₁.sk (.ret va) f₁)
theorem st_ret0 {pos : Pos} : ExOk h₀ prog w n env (.Return none pos) (fun σ Q => Q (.ret .none) σ) :=
  fun _ _ _ _ _ _ _ _ _ S f q => wpAny_Return_none (q _ _ _ _ _ _ (Sk.refl S) (.ret .none) f)
theorem st_cont {pos : Pos} : ExOk h₀ prog w n env (.Continue pos) (fun σ Q => Q .cont σ) :=
  fun _ _ _ _ _ _ _ _ _ S f q => wpAny_Continue (q _ _ _ _ _ _ (Sk.refl S) .cont f)
/-- while: k turns at most -/
noncomputable def whileW (ft : BT) (fb : XT) : Nat → St → (Fl → St → Prop) → Prop
  | 0, _, _ => False
  | k + 1, σ, Q => ft σ fun c H₁ => if c then fb ⟨σ.loc, H₁⟩ fun fl σ' => match fl with
      | .next => whileW ft fb k σ' Q
      | .cont => whileW ft fb k σ' Q
      | .brk => Q .next σ'
      | .ret p => Q (.ret p) σ'
    else Q .next ⟨σ.loc, H₁⟩
theorem st_while {t : Expr} {b : List Stmt} {pos : Pos} {ft : BT} {fb : XT} (ht : BtOk h₀ prog w n env t ft) (hb : XsOk h₀ prog w n env b fb) :
    ExOk h₀ prog w n env (.While t b [] pos) (fun σ Q => ∃ k, whileW ft fb k σ Q) := by
  rintro A Z loc H s Q Q' E rm S ⟨k, f⟩ q
  refine wpAny_While ?_
  refine codeAny_whileLoop (R := fun r s' => match r with | .ok f => Q' f s' | .error e => cameBackBy (model prog w) A env E e s')
    (fun k' s' => ∃ loc' Z' H', Sk h₀ env loc Z H s loc' Z' H' s' ∧ whileW ft fb k' ⟨loc', H'⟩ Q) ?_ k ⟨loc, Z, H, Sk.refl S, f⟩
  rintro k' s' ⟨loc', Z', H', K, f'⟩
  cases k' with
  | zero => exact f'.elim
  | succ k' =>
    refine ht A Z' loc' H' s' _ _ _ rm K.sat f' fun c Z₁ H₁ s₁ k₁ f₁ => ?_
    have K₁ := K.trans k₁.sk
    cases c with
    | true =>
      refine hb A Z₁ loc' H₁ s₁ _ _ _ rm k₁.sat f₁ fun fl p loc₂ Z₂ H₂ s₂ k₂ vf f₂ => ?_
      cases vf with
      | next => exact ⟨k', Nat.lt_succ_self _, loc₂, Z₂, H₂, K₁.trans k₂, f₂⟩
      | cont => exact ⟨k', Nat.lt_succ_self _, loc₂, Z₂, H₂, K₁.trans k₂, f₂⟩
      | brk => exact q _ _ _ _ _ _ (K₁.trans k₂) .next f₂
      | ret v => exact q _ _ _ _ _ _ (K₁.trans k₂) (.ret v) f₂
    | false => exact wpAny_execs_nil (q _ _ _ _ _ _ K₁ .next f₁)
/-- for: the items one by one; what is done with an item ahead of the body -/
noncomputable def forW (fa : PV → St → (St → Prop) → Prop) (fb : XT) : List PV → St → (Fl → St → Prop) → Prop
  | [], σ, Q => Q .next σ
  | p :: r, σ, Q => fa p σ fun σ₁ => fb σ₁ fun fl σ' => match fl with
      | .next => forW fa fb r σ' Q
      | .cont => forW fa fb r σ' Q
      | .brk => Q .next σ'
      | .ret p => Q (.ret p) σ'
/-- an item assigned -/
noncomputable def AsOk (h₀ : Heap) (prog : Program) (w : World) (env : Env) (t : Expr) (fa : PV → St → (St → Prop) → Prop) : Prop :=
  ∀ (A : Around) (Z : Zm) (loc : Loc) (H : LH) (s : Shared) (p : PV) (v : Value) (Q : St → Prop) (Q' : Unit → Shared → Prop) (E : Value → Shared → Prop),
    A.handled = none → Sat h₀ Z env loc H s.heap → VR Z p v → fa p ⟨loc, H⟩ Q → (∀ loc' Z' H' s', Sk h₀ env loc Z H s loc' Z' H' s' → Q ⟨loc', H'⟩ → Q' () s') → wpAny (model prog w) A (assign t env v) Q' E s
theorem as_name {x : String} {pos : Pos} (hk : Stores env x) : AsOk h₀ prog w env (.Name (Str.ofString x) pos) (fun p σ Q => Q ⟨σ.loc.set x p, σ.H⟩) :=
  fun A Z loc H s p v Q Q' E hh S hv f q => wpAny_assign_Name (store_ok S hv hk fun s' k => q _ _ _ _ k f)
/-- is a list that may be changed gone over? -/
noncomputable def iterOk : PV → Prop
  | .ref _ => False
  | _ => True
theorem mem_of_lookup {l : List (Str × Addr)} {x : Str} {c : Addr} (h : l.lookup x = some c) : (x, c) ∈ l := by
  obtain ⟨l1, l2, h1, _⟩ := List.lookup_eq_some_iff.mp h
  rw [h1]; simp
/-- a walker goes one on -/
theorem Sk.walk {loc loc' : Loc} {Z Z' : Zm} {H H' : LH} {s s' : Shared} {I : Addr} {h' : Heap} {tk : Nat} (K : Sk h₀ env loc Z H s loc' Z' H' s') (S : Sat h₀ Z env loc H s.heap)
    (hk : ∀ b o, b ≠ I → s'.heap.get? b = some o → h'.get? b = some o) (hI : s.heap.get? I = none) (hZ : Z' I = none) (hH : H' I = none) : Sk h₀ env loc Z H s loc' Z' H' { s' with heap := h', toks := tk } := by
  have iL : env.locals ≠ I := fun h => by
    obtain ⟨oL, eL⟩ := S.nsAt
    rw [h, hI] at eL; cases eL
  have iC : ∀ m c, (m, c) ∈ env.cells → c ≠ I := fun m c hm h => by
    obtain ⟨_, _, oc, ec, _⟩ := S.cellZ m c hm
    rw [h, hI] at ec; cases ec
  have iZ : ∀ a o, Z' a = some o → a ≠ I := fun a o e h => by rw [h, hZ] at e; cases e
  have iH : ∀ a l, H' a = some l → a ≠ I := fun a l e h => by rw [h, hH] at e; cases e
  have i0 : ∀ a o, s.heap.get? a = some o → a ≠ I := fun a o e h => by rw [h, hI] at e; cases e
  have S' := K.sat
  refine ⟨⟨S'.base, fun a o e => hk a o (iZ a o e) (S'.frz a o e), S'.nsZ, fun m c hm => ?_, S'.cellN, S'.kind, ?_, fun a l e => ?_⟩, ?_, ?_, ?_, K.fz, K.fh⟩
  · obtain ⟨z, w', o, e, d⟩ := S'.cellZ m c hm
    exact ⟨z, w', o, hk c o (iC m c hm) e, d⟩
  · obtain ⟨m, hm, hl⟩ := S'.ns
    refine ⟨m, hm.at' fun o e => hk _ o iL e, fun y p e => ?_⟩
    cases hl y p e with
    | loc v a b c => exact .loc v a b c
    | cell c v a b d g =>
      obtain ⟨o, eo, d'⟩ := d
      exact .cell c v a b ⟨o, hk c o (iC _ c (mem_of_lookup b)) eo, d'⟩ g
  · obtain ⟨z, vs, k, e', r⟩ := S'.obj a l e
    exact ⟨z, vs, k, hk a _ (iH a l e) e', r⟩
  · obtain ⟨h, t, rfl⟩ := K.sh
    exact ⟨h', tk, rfl⟩
  · exact fun b o e h1 h2 h3 => hk b o (i0 b o e) (K.frm b o e h1 h2 h3)
  · intro b o e
    obtain ⟨o', e'⟩ := K.live b o e
    exact ⟨o', hk b o' (i0 b o e) e'⟩
theorem Sk.noZ {loc loc' : Loc} {Z Z' : Zm} {H H' : LH} {s s' : Shared} {I : Addr} {o : Obj} (K : Sk h₀ env loc Z H s loc' Z' H' s') (e : s.heap.get? I = some o) (hZ : Z I = none) : Z' I = none := by
  cases q : Z' I with
  | none => rfl
  | some o' => have := K.fz.2 I hZ (by rw [q]; exact Option.some_ne_none _); rw [e] at this; cases this
theorem Sk.noH {loc loc' : Loc} {Z Z' : Zm} {H H' : LH} {s s' : Shared} {I : Addr} {o : Obj} (K : Sk h₀ env loc Z H s loc' Z' H' s') (e : s.heap.get? I = some o) (hH : H I = none) : H' I = none := by
  cases q : H' I with
  | none => rfl
  | some l =>
    rcases K.fh I l q with ⟨l', hl, _⟩ | hn
    · rw [hH] at hl; cases hl
    · rw [e] at hn; cases hn
/-- what the loop does with the item's old tuple says nothing of the plain state -/
noncomputable def LoOk (prog : Program) (w : World) (A : Around) (t : Expr) (I : Addr) (Sp : Nat → Heap → Prop) (fa : PV → St → (St → Prop) → Prop) : Prop :=
  ∀ (i : Nat) (s : Shared) (p : PV) (v : Value) (Z : Zm) (σ : St) (Q : St → Prop) (R : Unit → Shared → Prop) (E : Value → Shared → Prop), Sp i s.heap → VR Z p v → fa p σ Q → R () s → wpAny (model prog w) A (letOwnedTupleGo t (.ref I) v) R E s
theorem lo_plain {A : Around} {t : Expr} {I : Addr} {Sp : Nat → Heap → Prop} {fa : PV → St → (St → Prop) → Prop} (h : ∀ i v, letOwnedTupleGo t i v = pure ()) : LoOk prog w A t I Sp fa :=
  fun _ _ _ v _ _ _ _ _ _ _ _ r => by rw [h]; exact wpAny_pure r
theorem lo_tup {A : Around} {elts : List Expr} {x1} {tp : Pos} {I : Addr} {Sp : Nat → Heap → Prop} {fa : PV → St → (St → Prop) → Prop} (hf : ∀ p σ Q, fa p σ Q → ∃ ps, p = .tup ps) (hsp : ∀ i h, Sp i h → ∃ l j, h.IsListIter I l j) : LoOk prog w A (.Tuple elts x1 tp) I Sp fa :=
  fun _ _ _ v _ _ _ _ _ sp vr f r => by
    obtain ⟨ps, rfl⟩ := hf _ _ _ f
    obtain ⟨T, rfl⟩ : ∃ T, v = .ref T := by cases vr; exact ⟨_, rfl⟩
    obtain ⟨l, j, hl⟩ := hsp _ _ sp
    exact wpAny_letOwnedTupleGo_listiter hl r
theorem for_core {A : Around} {Z Z₁ : Zm} {loc : Loc} {H H₁ : LH} {s s₁ s₂ : Shared} {xs : List PV} {I : Addr} {fp wr : List Addr} {P : Nat → Value → Prop} {St : Nat → Heap → Prop} {t : Expr} {b : List Stmt} {fa : PV → Mine.St → (Mine.St → Prop) → Prop} {fb : XT}
    {Q : Fl → Mine.St → Prop} {Q' : Flow → Shared → Prop} {E : Value → Shared → Prop}
    (rm : Rm n A) (S : Sat h₀ Z env loc H s.heap) (k₁ : Ke h₀ env loc Z H s Z₁ H₁ s₁) (frozen : ∀ b ∈ fp, b ≠ I → ∃ o, Z₁ b = some o) (Wk : Wk prog w A Z₁ xs I fp wr P St) (kp : Kp s₁ s₂) (hst : St 0 s₂.heap) (hI : s₁.heap.get? I = none)
    (hlive : ∀ i h, St i h → ∃ o, h.get? I = some o) (hwr : wr = [I]) (ha : AsOk h₀ prog w env t fa) (hb : XsOk h₀ prog w n env b fb) (hlo : LoOk prog w A t I St fa) (f₁ : forW fa fb xs ⟨loc, H₁⟩ Q)
    (q : ∀ fl p loc' Z' H' s', Sk h₀ env loc Z H s loc' Z' H' s' → FlR Z' p fl → Q p ⟨loc', H'⟩ → Q' fl s') :
    codeAny (model prog w) A (.forLoop t (.ref I) b [] env) (fun r s' => match r with | .ok f => Q' f s' | .error e => cameBackBy (model prog w) A env E e s') s₂ := by
  have hIs : s.heap.get? I = none := k₁.kp.none hI
  have k₂ := k₁.trans (Ke.keep k₁.sat kp)
  have hZ₁ : Z₁ I = none := by
    cases q1 : Z₁ I with
    | none => rfl
    | some o => have := k₁.sat.frz I o q1; rw [hI] at this; cases this
  have hH₁ : H₁ I = none := by
    cases q1 : H₁ I with
    | none => rfl
    | some l => obtain ⟨_, _, _, e, _⟩ := k₁.sat.obj I l q1; rw [hI] at e; cases e
  have iL : I ≠ env.locals := fun h => by
    obtain ⟨oL, eL⟩ := S.nsAt
    rw [← h, hIs] at eL; cases eL
  have iC : ∀ m, (m, I) ∉ env.cells := fun m hm => by
    obtain ⟨_, _, oc, ec, _⟩ := S.cellZ m I hm
    rw [hIs] at ec; cases ec
  have nI : ∀ b, b ≠ I → b ∉ wr := fun b hb hm => by rw [hwr] at hm; exact hb (List.mem_singleton.mp hm)
  refine codeAny_forLoop_any (fun k s' => ∃ i loc' Z' H', Sk h₀ env loc Z H s loc' Z' H' s' ∧ St i s'.heap ∧ Z' I = none ∧ H' I = none ∧ Zle Z₁ Z' ∧ i ≤ xs.length ∧ k = xs.length - i ∧ forW fa fb (xs.drop i) ⟨loc', H'⟩ Q) ?_ xs.length
    ⟨0, loc, Z₁, H₁, k₂.sk, hst, hZ₁, hH₁, Zle.refl _, Nat.zero_le _, rfl, f₁⟩
  rintro k s' ⟨i, loc', Z', H', K, hst', hZ', hH', hle, hi, rfl, f'⟩
  by_cases hlt : i < xs.length
  · refine Wk.walks.item i s' _ _ hlt hst' fun v h' tk hP hst₁ hk₁ => ?_
    obtain ⟨p, hp, vp⟩ := Wk.item i v hP
    have K₁ : Sk h₀ env loc Z H s loc' Z' H' { s' with heap := h', toks := tk } := K.walk S (fun b o hb e => hk₁ b o (nI b hb) e) hIs hZ' hH'
    have hd : xs.drop i = p :: xs.drop (i + 1) := by
      rw [List.drop_eq_getElem_cons hlt]
      congr 1
      have := List.getElem?_eq_getElem hlt
      rw [this] at hp; exact Option.some.inj hp
    rw [hd] at f'
    obtain ⟨oI, eI⟩ := hlive _ _ hst₁
    refine hlo (i + 1) _ _ _ _ _ _ _ _ hst₁ vp f' ?_
    refine ha A Z' loc' H' _ p v _ _ _ rm.hd K₁.sat (vp.mono hle) f' fun loc₂ Z₂ H₂ s₂' k₃ f₂ => ?_
    refine hb A Z₂ loc₂ H₂ s₂' _ _ _ rm k₃.sat f₂ fun fl p' loc₃ Z₃ H₃ s₃ k₄ vf f₃ => ?_
    have K₂ := k₃.trans k₄
    have K₃ := K₁.trans K₂
    have goOn : forW fa fb (xs.drop (i + 1)) ⟨loc₃, H₃⟩ Q → ∃ m, m < xs.length - i ∧ ∃ i loc' Z' H', Sk h₀ env loc Z H s loc' Z' H' s₃ ∧ St i s₃.heap ∧ Z' I = none ∧ H' I = none ∧ Zle Z₁ Z' ∧ i ≤ xs.length ∧ m = xs.length - i ∧ forW fa fb (xs.drop i) ⟨loc', H'⟩ Q := fun ff => by
      refine ⟨xs.length - (i + 1), by (first | lia | omega), i + 1, loc₃, Z₃, H₃, K₃, ?_, K₂.noZ eI hZ', K₂.noH eI hH', hle.trans K₂.fz.1, hlt, rfl, ff⟩
      refine Wk.walks.frame (i + 1) h' s₃.heap hst₁ fun b hb' o e => ?_
      by_cases hbI : b = I
      · subst hbI
        refine K₂.frm b o e iL iC fun ys hy => ?_
        rw [hH'] at hy; cases hy
      · obtain ⟨o', hz⟩ := frozen b hb' hbI
        have e1 := K₁.sat.frz b o' (hle b o' hz)
        have e2 : h'.get? b = some o' := e1
        have e3 : o' = o := Option.some.inj (e2.symm.trans e)
        exact e3 ▸ K₂.sat.frz b o' (K₂.fz.1 b o' (hle b o' hz))
    cases vf with
    | next => exact goOn f₃
    | cont => exact goOn f₃
    | brk => exact q _ _ _ _ _ _ K₃ .next f₃
    | ret v => exact q _ _ _ _ _ _ K₃ (.ret v) f₃
  · have hin : i = xs.length := by (first | lia | omega)
    subst hin
    refine Wk.walks.done s' _ _ hst' fun h' tk hk₁ => wpAny_execs_nil ?_
    have K₁ : Sk h₀ env loc Z H s loc' Z' H' { s' with heap := h', toks := tk } := K.walk S (fun b o hb e => hk₁ b o (nI b hb) e) hIs hZ' hH'
    rw [List.drop_length] at f'
    exact q _ _ _ _ _ _ K₁ .next f'
theorem st_for {t it : Expr} {b : List Stmt} {pos : Pos} {fi : ET} {fa : PV → St → (St → Prop) → Prop} {fb : XT} (hi : EvOk h₀ prog w n env it fi) (ha : AsOk h₀ prog w env t fa) (hb : XsOk h₀ prog w n env b fb)
    (hs : ∀ x, foldedSetIterable it env x = pure x := by intro _; rfl) (ht : ∀ i v, letOwnedTupleGo t i v = pure () := by intro _ _; rfl) :
    ExOk h₀ prog w n env (.For t it b [] pos) (fun σ Q => fi σ fun a H₁ => ∃ xs, iterOk a ∧ iterOf H₁ a = some xs ∧ forW fa fb xs ⟨σ.loc, H₁⟩ Q) := by
  intro A Z loc H s Q Q' E rm S f q
  refine wpAny_For (hi A Z loc H s _ _ _ rm S f fun x a Z₁ H₁ s₁ k₁ va f₁ => ?_) hs
  obtain ⟨xs, hok, hit, f₁⟩ := f₁
  refine iter_ok rm k₁.sat va hit fun I fp wr P St s₂ Wk kp hst hI hlive hwr hfp hfl => ?_
  refine for_core rm S k₁ (fun b hb hne => ?_) Wk kp hst hI hlive hwr ha hb (lo_plain ht) f₁ q
  rcases hfp b hb with h | h
  · exact absurd h hne
  · cases va with
    | tup z r => cases h; exact ⟨_, z⟩
    | lst z r => cases h; exact ⟨_, z⟩
    | rng z => cases h; exact ⟨_, z⟩
    | ref a => exact hok.elim
    | raw v => cases hit
    | obj z _ _ => cases hit
    | _ => cases h
end
end Mine
end
section
namespace Mine
theorem bindL_mem {kindOf : Str → Option NameKind} {x : Str} {v : Value} (hk : kindOf x = some .local) : ∀ {binds : List (Str × Value)} {m : Str → Option Value}, (binds.map (·.1)).Nodup → ((x, v) ∈ binds ∨ (m x = some v ∧ x ∉ binds.map (·.1))) → bindL kindOf binds m x = some v
  | [], m, _, h => by
    rcases h with h | h
    · cases h
    · exact h.1
  | (n, u) :: r, m, nd, h => by
    simp only [List.map_cons, List.nodup_cons] at nd
    unfold bindL
    refine bindL_mem hk nd.2 ?_
    rcases h with h | ⟨h1, h2⟩
    · rcases List.mem_cons.mp h with e | h
      · cases e
        refine .inr ⟨?_, nd.1⟩
        rw [if_pos hk]; simp
      · exact .inl h
    · simp only [List.map_cons, List.mem_cons, not_or] at h2
      refine .inr ⟨?_, h2.2⟩
      split
      · simp only [if_neg h2.1]; exact h1
      · exact h1
theorem bindC_mem {kindOf : Str → Option NameKind} {x : Str} {v : Value} (hk : kindOf x ≠ some .local) : ∀ {binds : List (Str × Value)} {m : Str → Option Value}, (binds.map (·.1)).Nodup → ((x, v) ∈ binds ∨ (m x = some v ∧ x ∉ binds.map (·.1))) → bindC kindOf binds m x = some v
  | [], m, _, h => by
    rcases h with h | h
    · cases h
    · exact h.1
  | (n, u) :: r, m, nd, h => by
    simp only [List.map_cons, List.nodup_cons] at nd
    unfold bindC
    refine bindC_mem hk nd.2 ?_
    rcases h with h | ⟨h1, h2⟩
    · rcases List.mem_cons.mp h with e | h
      · cases e
        refine .inr ⟨?_, nd.1⟩
        rw [if_neg hk]; simp
      · exact .inl h
    · simp only [List.map_cons, List.mem_cons, not_or] at h2
      refine .inr ⟨?_, h2.2⟩
      split
      · exact h1
      · simp only [if_neg h2.1]; exact h1
/-- the parameters' names and their values -/
noncomputable def argLoc : List String → List PV → Loc
  | x :: xs, p :: ps => fun y => if y = x then some p else argLoc xs ps y
  | _, _ => fun _ => none
theorem argLoc_some : ∀ {names : List String} {ps : List PV} {vs : List Value} {Z : Zm} {y : String} {p : PV}, VRs Z ps vs → argLoc names ps y = some p → ∃ v, (Str.ofString y, v) ∈ (names.map Str.ofString).zip vs ∧ VR Z p v
  | [], _, _, _, _, _, _, h => by cases h
  | _ :: _, [], _, _, _, _, _, h => by cases h
  | x :: xs, q :: ps, _, Z, y, p, .cons hv hr, h => by
    unfold argLoc at h
    by_cases e : y = x
    · rw [if_pos e] at h; cases h
      exact ⟨_, by rw [e]; exact List.mem_cons_self, hv⟩
    · rw [if_neg e] at h
      obtain ⟨v, hm, hv'⟩ := argLoc_some hr h
      exact ⟨v, List.mem_cons_of_mem _ hm, hv'⟩
theorem zip_fst_sublist {α β : Type} : ∀ (xs : List α) (vs : List β), List.Sublist ((xs.zip vs).map (·.1)) xs
  | [], _ => by simp
  | x :: xs, [] => by simp
  | x :: xs, v :: vs => by simp only [List.zip_cons_cons, List.map_cons]; exact (zip_fst_sublist xs vs).cons₂ x
section
variable {K : Frag} {h₀ : Heap} {prog : Program} {w : World} {n : Nat} {env : Env}
/-- a def's body is entered -/
theorem enter_ok {A : Around} {Z : Zm} {loc : Loc} {H : LH} {s : Shared} {R : Result → Shared → Prop} {name qual : Str} {params : Arguments} {body : List Stmt} {scope : Scope} {dV kV doc pm cdv ct oc : Value} {an od : Option Addr} {osl : Array (Option Value)} {f : Addr}
    {names : List String} {ps : List PV} {vs : List Value} (H₀ : LH)
    (G : Gr K h₀) (ho : K.lookup f = some ⟨oc, od, .func (fnOf name qual params body scope dV kV doc pm an cdv ct), osl⟩) (hcd : codeIn K cdv qual = true)
    (hco : scope.isCoroutine = false) (hgen : scope.isGenerator = false) (hk : scope.kind = .function)
    (hbind : BindsTo s (fnOf name qual params body scope dV kV doc pm an cdv ct) ⟨vs, []⟩ ((names.map Str.ofString).zip vs))
    (hkind : (names.all fun y => scope.names.lookup (Str.ofString y) == some .local || scope.names.lookup (Str.ofString y) == some .cell) = true) (hnn : names.Nodup) (hnd : ((cellsFrom 0 scope.names []).map (·.1)).Nodup)
    (hd : A.depth < recursionLimit) (S : Sat h₀ Z env loc H s.heap) (hH₀ : ∀ a l, H₀ a = some l → ∃ l', H a = some l' ∧ l.xs = l'.xs) (hv : VRs Z ps vs)
    (h : ∀ L' s', Sat h₀ Z (envOfC qual scope L' f cdv) (argLoc names ps) H₀ s'.heap → Kp s s' → s.heap.get? L' = none → (∀ n c, (n, c) ∈ (envOfC qual scope L' f cdv).cells → s.heap.get? c = none) →
      wpAny (model prog w) (A.deeper (envOfC qual scope L' f cdv)) (execs body (envOfC qual scope L' f cdv)) (fun fl s' => R (.ok (.ret (match fl with | .ret v => v | _ => .none))) s')
        (fun e s' => wpAny (model prog w) (A.deeper (envOfC qual scope L' f cdv)) (leaving (envOfC qual scope L' f cdv) e) (fun _ s'' => R (.error e) s'') (fun e' s'' => R (.error e') s'') s') s') :
    codeAny (model prog w) A (.call (.ref f) ⟨vs, []⟩) R s := by
  have X : K.In s.heap := G.X.keeps S.keep
  refine codeAny_call_function hd (X _ _ ho) rfl hco hgen rfl (codeRec_of X hcd) (hbind _ _ _ _ ?_)
  have hkinds : ∀ y, y ∈ (names.map Str.ofString).zip vs → ∃ x ∈ names, y.1 = Str.ofString x := fun y hy => by
    have := (List.of_mem_zip hy).1
    obtain ⟨x, hx, e⟩ := List.mem_map.mp this
    exact ⟨x, hx, e.symm⟩
  have kd : ((names.map Str.ofString).zip vs).all (fun y => scope.names.lookup y.1 == some .local || scope.names.lookup y.1 == some .cell) = true := by
    refine List.all_eq_true.mpr fun y hy => ?_
    obtain ⟨x, hx, e⟩ := hkinds y hy
    rw [e]; exact List.all_eq_true.mp hkind x hx
  refine wpAny_newFunctionEnv_cells hk (kindsX kd _) fun env' he s' x => ?_
  subst he
  refine ⟨(G.nl.keeps S.keep).keeps x.toInCall.keep, codeAny_func ?_⟩
  have hkeep := x.toInCall.keep
  have nd : (((names.map Str.ofString).zip vs).map (·.1)).Nodup := by
    refine List.Nodup.sublist (zip_fst_sublist _ _) ?_
    exact hnn.map Str.ofString fun a b hab h => hab (ofString_inj h)
  refine h s.heap.objs.size s' ⟨S.base, fun a o e => hkeep a o (S.frz a o e), ?_, ?_, ?_, hk, ⟨_, x.toInCall.ns, ?_⟩, ?_⟩ ?_ (get_size _) ?_
  · cases q : Z s.heap.objs.size with
    | none => exact q
    | some o => have := S.frz _ o q; rw [get_size] at this; cases this
  · intro m c hm
    have hab : s.heap.objs.size < c := x.above m c hm
    refine ⟨?_, ?_⟩
    · cases q : Z c with
      | none => rfl
      | some o => have := Heap.lt_size (S.frz c o q); exact absurd this (Nat.lt_asymm hab)
    · exact ⟨_, x.cell m c (lookup_of_mem_nodup (cellsFrom_names scope.names 0 (s.heap.objs.size + 1) [] [] rfl ▸ hnd) hm)⟩
  · show (List.map (·.2) (cellsFrom (s.heap.objs.size + 1) scope.names [])).Nodup
    exact List.pairwise_map.mpr x.apart
  · intro y p e
    obtain ⟨v, hm, vr⟩ := argLoc_some hv e
    have hy := List.all_eq_true.mp kd _ hm
    by_cases hl : (envOfC qual scope s.heap.objs.size f cdv).kindOf (Str.ofString y) = some .local
    · exact .loc v hl (bindL_mem hl nd (.inl hm)) vr
    · have hc : (envOfC qual scope s.heap.objs.size f cdv).kindOf (Str.ofString y) = some .cell := by
        rcases Bool.or_eq_true_iff.mp hy with h | h
        · exact absurd (show scope.names.lookup (Str.ofString y) = some .local by simpa using h) hl
        · exact (show scope.names.lookup (Str.ofString y) = some .cell by simpa using h)
      obtain ⟨c, hc'⟩ := Option.isSome_iff_exists.mp (((kindsX kd (s.heap.objs.size + 1) _ hm).resolve_left fun h => hl h).2)
      have hcell := x.cell _ _ hc'
      have e : bindC (envOfC qual scope s.heap.objs.size f cdv).kindOf ((names.map Str.ofString).zip vs) (fun _ => none) (Str.ofString y) = some v := bindC_mem hl nd (.inl hm)
      have hcell' : s'.heap.IsCell c (bindC (envOfC qual scope s.heap.objs.size f cdv).kindOf ((names.map Str.ofString).zip vs) (fun _ => none) (Str.ofString y)) := hcell
      rw [e] at hcell'
      exact .cell c v (.inl hc) hc' hcell' vr
  · intro a l e
    obtain ⟨l', e', hx⟩ := hH₀ a l e
    obtain ⟨z, ws, k, ho', r⟩ := S.obj a l' e'
    exact ⟨z, ws, k, hkeep _ _ ho', by rw [hx]; exact r⟩
  · obtain ⟨h', tk, e, k⟩ := x.done
    exact ⟨h', tk, e, k⟩
  · intro m c hm
    have hab : s.heap.objs.size < c := x.above m c hm
    cases q : s.heap.get? c with
    | none => rfl
    | some o => exact absurd (Heap.lt_size q) (Nat.lt_asymm hab)
end
end Mine
end
section
namespace Mine
noncomputable def flowVal : Flow → Value
  | .ret v => v
  | _ => .none
theorem FlR.val {Z : Zm} : ∀ {p : Fl} {fl : Flow}, FlR Z p fl → VR Z (match p with | .ret p => p | _ => .none) (flowVal fl)
  | _, _, .ret v => v
  | _, _, .next => .none
  | _, _, .brk => .none
  | _, _, .cont => .none
noncomputable def flVal : Fl → PV
  | .ret p => p
  | _ => .none
/-- what a call hands back: the value; a new list of the callee's may be had as a value -/
noncomputable def retW (p : PV) (H H' : LH) (Q : PV → LH → Prop) : Prop := Q p H ∨ ∃ a xs, p = .ref a ∧ H' a = some ⟨true, xs⟩ ∧ Q (.lst xs) H
noncomputable def callW (names : List String) (Fb : XT) (ps : List PV) (H : LH) (Q : PV → LH → Prop) : Prop := Fb ⟨argLoc names ps, H.ro⟩ fun fl σ' => retW (flVal fl) H σ'.H Q
section
variable {K : Frag} {h₀ : Heap} {prog : Program} {w : World} {n : Nat} {env : Env}
theorem Sat.of_callee {Z Z' : Zm} {env' : Env} {loc loc' loc'' : Loc} {H H₀ H' : LH} {s s₁ s₂ : Shared} (S : Sat h₀ Z env loc H s.heap) (hkp : Kp s s₁) (Kc : Sk h₀ env' loc' Z H₀ s₁ loc'' Z' H' s₂)
    (hall : ∀ b o, s.heap.get? b = some o → s₂.heap.get? b = some o) : Sat h₀ Z' env loc H s₂.heap := by
  refine (S.keeps hall).freeze Kc.fz.1 Kc.sat.frz ?_ ?_ ?_
  · obtain ⟨o, e⟩ := S.nsAt
    exact Kc.noZ (hkp.get e) S.nsZ
  · intro m c hm
    obtain ⟨z, _, o, e, _⟩ := S.cellZ m c hm
    exact Kc.noZ (hkp.get e) z
  · intro a l e
    obtain ⟨z, _, _, eo, _⟩ := S.obj a l e
    exact Kc.noZ (hkp.get eo) z
theorem fn_ok {name qual : Str} {params : Arguments} {body : List Stmt} {scope : Scope} {dV kV doc pm cdv ct oc : Value} {an od : Option Addr} {osl : Array (Option Value)} {f : Addr} {names : List String} {Fb : XT}
    (G : Gr K h₀) (ho : K.lookup f = some ⟨oc, od, .func (fnOf name qual params body scope dV kV doc pm an cdv ct), osl⟩) (hcd : codeIn K cdv qual = true)
    (hco : scope.isCoroutine = false) (hgen : scope.isGenerator = false) (hk : scope.kind = .function)
    (hbind : ∀ s vs, vs.length = names.length → BindsTo s (fnOf name qual params body scope dV kV doc pm an cdv ct) ⟨vs, []⟩ ((names.map Str.ofString).zip vs))
    (hkind : (names.all fun y => scope.names.lookup (Str.ofString y) == some .local || scope.names.lookup (Str.ofString y) == some .cell) = true) (hnn : names.Nodup) (hnd : ((cellsFrom 0 scope.names []).map (·.1)).Nodup)
    (hb : ∀ L', XsOk h₀ prog w n (envOfC qual scope L' f cdv) body Fb) :
    ∀ loc Z H s ps vs, Sat h₀ Z env loc H s.heap → VRs Z ps vs → OpOk h₀ prog w (n + 1) env loc Z H s (call (.ref f) vs) (fun Q => ps.length = names.length ∧ callW names Fb ps H Q) := by
  intro loc Z H s ps vs S hv A Q Q' E rm f q
  obtain ⟨hlen, f⟩ := f
  refine wpAny_call (enter_ok H.ro G ho hcd hco hgen hk (hbind s vs (by rw [hv.length]; exact hlen)) hkind hnn hnd (by have := rm.dp; (first | lia | omega)) S (fun a l e => ?_) hv fun L' s₁ S₁ kp hL hC => ?_)
  · unfold LH.ro at e
    cases q1 : H a with
    | none => rw [q1] at e; cases e
    | some l' => rw [q1] at e; cases e; exact ⟨l', rfl, rfl⟩
  · refine hb L' (A.deeper _) Z (argLoc names ps) H.ro s₁ _ _ _ (rm.deeper _) S₁ f fun fl p loc' Z' H' s₂ Kc vf f' => ?_
    have hall : ∀ b o, s.heap.get? b = some o → s₂.heap.get? b = some o := fun b o e => by
      refine Kc.frm b o (kp.get e) ?_ ?_ ?_
      · intro h; rw [show (envOfC qual scope L' _ cdv).locals = L' from rfl] at h; rw [h, hL] at e; cases e
      · intro m hm; rw [hC m b hm] at e; cases e
      · intro xs hx
        unfold LH.ro at hx
        cases q1 : H b with
        | none => rw [q1] at hx; cases hx
        | some l' => rw [q1] at hx; cases hx
    have hsh : Kp s s₂ := by
      obtain ⟨h', tk, e, _⟩ := kp
      obtain ⟨h'', tk', e'⟩ := Kc.sh
      subst e
      exact ⟨h'', tk', e', fun b o eb => by have := hall b o eb; rw [e'] at this; exact this⟩
    have S₂ := S.of_callee kp Kc hall
    have hfz : Fresh s Z Z' := ⟨Kc.fz.1, fun a h1 h2 => by
      have := Kc.fz.2 a h1 h2
      exact kp.none this⟩
    have hfl : VR Z' (flVal p) (flowVal fl) := vf.val
    change Q' (flowVal fl) s₂
    rcases f' with f' | ⟨a, xs, hp, ha, f'⟩
    · exact q _ _ _ _ _ ⟨S₂, hsh, hfz, FreshH.refl s H⟩ hfl f'
    · rw [hp] at hfl
      obtain ⟨za, ws, k, ho', r⟩ := Kc.sat.obj a _ ha
      have hfresh : s.heap.get? a = none := by
        rcases Kc.fh a _ ha with ⟨l, hl, hm⟩ | hn
        · unfold LH.ro at hl
          cases q1 : H a with
          | none => rw [q1] at hl; cases hl
          | some l' => rw [q1] at hl; cases hl; cases hm rfl
        · exact kp.none hn
      have hz : Zle Z' (Z'.set a { cls := .type "list", data := .seq ws.toArray k }) := Zm.le_set _ za
      have hfl' : flowVal fl = .ref a := by
        generalize flowVal fl = x at hfl
        cases hfl; rfl
      have nea : ∀ b o, s.heap.get? b = some o → b ≠ a := fun b o e h => by rw [h, hfresh] at e; cases e
      have S₃ : Sat h₀ (Z'.set a { cls := .type "list", data := .seq ws.toArray k }) env loc H s₂.heap := by
        refine S₂.freeze hz ?_ ?_ ?_ ?_
        · intro b o e
          unfold Zm.set at e
          by_cases hb' : b = a
          · rw [if_pos hb'] at e; cases e; rw [hb']; exact ho'
          · rw [if_neg hb'] at e; exact S₂.frz b o e
        · obtain ⟨o, e⟩ := S.nsAt
          unfold Zm.set; rw [if_neg (nea _ _ e)]; exact S₂.nsZ
        · intro m c hm
          obtain ⟨_, _, o, e, _⟩ := S.cellZ m c hm
          unfold Zm.set; rw [if_neg (nea _ _ e)]; exact (S₂.cellZ m c hm).1
        · intro b l e
          obtain ⟨_, _, _, eo, _⟩ := S.obj b l e
          unfold Zm.set; rw [if_neg (nea _ _ eo)]; exact (S₂.obj b l e).1
      rw [hfl']
      refine q _ _ _ _ _ ⟨S₃, hsh, ⟨Kc.fz.1.trans hz, fun b h1 h2 => ?_⟩, FreshH.refl s H⟩ (.lst (Zm.set_self _ _ _) (r.mono hz)) f'
      unfold Zm.set at h2
      by_cases hb' : b = a
      · rw [hb']; exact hfresh
      · rw [if_neg hb'] at h2; exact hfz.2 b h1 h2
end
end Mine
end
section
namespace Mine
section
variable {K : Frag} {h₀ : Heap} {prog : Program} {w : World} {n : Nat} {env : Env}
/-- the same plain state, another frame: what a pure expression of another frame's leaves -/
theorem Sat.other {env' : Env} {loc loc' : Loc} {Z Z' : Zm} {H H' : LH} {s s' : Shared} (S : Sat h₀ Z env loc H s.heap) (k : Ke h₀ env' loc' Z H s Z' H' s') : Sat h₀ Z' env loc H' s'.heap := by
  have fz : ∀ {a : Addr} {o : Obj}, s.heap.get? a = some o → Z a = none → Z' a = none := fun {a o} e hz => by
    cases q : Z' a with
    | none => rfl
    | some o' => have := k.fz.2 a hz (by rw [q]; exact Option.some_ne_none _); rw [e] at this; cases this
  refine ⟨fun a o e => k.fz.1 a o (S.base a o e), k.sat.frz, ?_, ?_, S.cellN, S.kind, ?_, k.sat.obj⟩
  · obtain ⟨o, e⟩ := S.nsAt
    exact fz e S.nsZ
  · intro m c hm
    obtain ⟨z, w', o, e, d⟩ := S.cellZ m c hm
    exact ⟨fz e z, w', o, k.kp.get e, d⟩
  · obtain ⟨m, a, b⟩ := S.ns
    exact ⟨m, a.at' fun o e => k.kp.get e, fun x p e => (b x p e).keeps k.fz.1 fun _ _ e => k.kp.get e⟩
/-- an assignment that turns the frame's own names alone -/
structure Sa (h₀ : Heap) (env : Env) (loc' : Loc) (Z : Zm) (H : LH) (s s' : Shared) : Prop where
  sat : Sat h₀ Z env loc' H s'.heap
  sh : ∃ h' tk, s' = { s with heap := h', toks := tk }
  kp : ∀ b o, b ≠ env.locals → s.heap.get? b = some o → s'.heap.get? b = some o
noncomputable def AcOk (h₀ : Heap) (prog : Program) (w : World) (env : Env) (t : Expr) (fa : PV → St → (St → Prop) → Prop) : Prop :=
  ∀ (A : Around) (Z : Zm) (loc : Loc) (H : LH) (s : Shared) (p : PV) (v : Value) (Q : St → Prop) (Q' : Unit → Shared → Prop) (E : Value → Shared → Prop),
    A.handled = none → Sat h₀ Z env loc H s.heap → VR Z p v → fa p ⟨loc, H⟩ Q → (∀ loc' s', Sa h₀ env loc' Z H s s' → Q ⟨loc', H⟩ → Q' () s') → wpAny (model prog w) A (assign t env v) Q' E s
theorem storeL {A : Around} {Z : Zm} {loc : Loc} {H : LH} {s : Shared} {x : String} {p : PV} {v : Value} {Q' : Unit → Shared → Prop} {E : Value → Shared → Prop} (S : Sat h₀ Z env loc H s.heap) (hv : VR Z p v)
    (hk : env.kindOf (Str.ofString x) = some .local) (q : ∀ s', Sa h₀ env (loc.set x p) Z H s s' → Q' () s') : wpAny (model prog w) A (storeName env (Str.ofString x) v) Q' E s := by
  obtain ⟨m, hm, hl⟩ := S.ns
  have neZ : ∀ {a : Addr} {o : Obj}, Z a = some o → a ≠ env.locals := fun {a o} e h => by rw [h, S.nsZ] at e; cases e
  have neC : ∀ {n : Str} {c : Addr}, (n, c) ∈ env.cells → c ≠ env.locals := fun {n c} hc h => by
    obtain ⟨_, w, o, e, d⟩ := S.cellZ n c hc
    obtain ⟨o', es, ep, e', d', _⟩ := hm
    rw [h, e'] at e; cases e; rw [d'] at d; cases d
  have neH : ∀ {a : Addr} {l : LO}, H a = some l → a ≠ env.locals := fun {a l} e h => by
    obtain ⟨_, vs, k, e', _⟩ := S.obj a l e
    obtain ⟨o', es, ep, e'', d', _⟩ := hm
    rw [h, e''] at e'; cases e'; cases d'
  refine wpAny_storeName_local hk hm (fun h' hn hs => q _ ⟨⟨S.base, ?_, S.nsZ, ?_, S.cellN, S.kind, ⟨_, hn, ?_⟩, ?_⟩, ⟨h', _, rfl⟩, ?_⟩) (by rw [S.kind]; rfl)
  · exact fun a o e => (hs.2 a (neZ e)).trans (S.frz a o e)
  · intro n c hm'
    obtain ⟨z, w', o, e, d⟩ := S.cellZ n c hm'
    exact ⟨z, w', o, (hs.2 c (neC hm')).trans e, d⟩
  · intro y p' e
    by_cases hy : y = x
    · subst hy
      rw [Loc.set_self] at e; cases e
      exact .loc v hk (by simp) hv
    · rw [Loc.set_ne _ _ hy] at e
      cases hl y p' e with
      | loc v' a b c => exact .loc v' a (by rw [if_neg fun h => hy (ofString_inj h)]; exact b) c
      | cell c v' a b d g => exact .cell c v' a b (d.sameBut hs (neC (mem_of_lookup b))) g
  · intro a l e
    obtain ⟨z, vs, k, e', r⟩ := S.obj a l e
    exact ⟨z, vs, k, (hs.2 a (neH e)).trans e', r⟩
  · exact fun b o h1 e => (hs.2 b h1).trans e
theorem ac_name {x : String} {pos : Pos} (hk : env.kindOf (Str.ofString x) = some .local) : AcOk h₀ prog w env (.Name (Str.ofString x) pos) (fun p σ Q => Q ⟨σ.loc.set x p, σ.H⟩) :=
  fun A Z loc H s p v Q Q' E hh S hv f q => wpAny_assign_Name (storeL S hv hk fun s' k => q _ _ k f)
/-- the tests of a comprehension -/
noncomputable def TsOk (h₀ : Heap) (prog : Program) (w : World) (n : Nat) (env : Env) (ifs : List Expr) (F : BT) : Prop :=
  ∀ (A : Around) (Z : Zm) (loc : Loc) (H : LH) (s : Shared) (Q : Bool → LH → Prop) (Q' : Bool → Shared → Prop) (E : Value → Shared → Prop),
    Rm n A → Sat h₀ Z env loc H s.heap → F ⟨loc, H⟩ Q →
    (∀ b Z' H' s', Ke h₀ env loc Z H s Z' H' s' → Q b H' → Q' b s') →
    wpAny (model prog w) A (forIn ifs true fun c r => if r = true then do let ok ← isTrue c env (eval c env); pure (ForInStep.yield ok) else pure (ForInStep.yield r)) Q' E s
theorem ts_nil : TsOk h₀ prog w n env [] (fun σ Q => Q true σ.H) := fun _ _ _ _ _ _ _ _ _ S f q => wpAny_tests_nil (q _ _ _ _ (Ke.refl S) f)
/-- a comprehension over the items -/
noncomputable def compW (fa : PV → St → (St → Prop) → Prop) (ft : BT) (fe : ET) (cap : Loc) : List PV → List PV → LH → (List PV → LH → Prop) → Prop
  | [], acc, H, Q => Q acc H
  | p :: r, acc, H, Q => fa p ⟨cap, H⟩ fun σ => ft σ fun c H₁ => if c then fe ⟨σ.loc, H₁⟩ fun y H₂ => compW fa ft fe cap r (acc ++ [y]) H₂ Q else compW fa ft fe cap r acc H₁ Q
/-- what the block of a comprehension sees of its frame -/
structure Caps (env : Env) (scope : Scope) (cl : List (Str × Addr)) (caps : List String) : Prop where
  sub : ∀ p ∈ cl, p ∈ env.cells
  nd : (cl.map (·.2)).Nodup
  kind : scope.kind = .function
  see : ∀ C, ∀ y ∈ caps, ((compEnvC scope cl C env).kindOf (Str.ofString y) = some .cell ∨ (compEnvC scope cl C env).kindOf (Str.ofString y) = some .free) ∧ cl.lookup (Str.ofString y) = env.cells.lookup (Str.ofString y) ∧ env.kindOf (Str.ofString y) ≠ some .local
noncomputable def capLoc (caps : List String) (loc : Loc) : Loc := fun y => if y ∈ caps then loc y else none
theorem Sat.block {Z : Zm} {loc : Loc} {H : LH} {h : Heap} {scope : Scope} {cl : List (Str × Addr)} {caps : List String} {C : Addr} {m : Str → Option Value} (S : Sat h₀ Z env loc H h) (cp : Caps env scope cl caps) (hn : h.Ns C m) (hZ : Z C = none) :
    Sat h₀ Z (compEnvC scope cl C env) (capLoc caps loc) H h := by
  refine ⟨S.base, S.frz, hZ, fun m c hm => S.cellZ m c (cp.sub _ hm), cp.nd, cp.kind, ⟨m, hn, fun y p e => ?_⟩, S.obj⟩
  unfold capLoc at e
  split at e
  · rename_i hy
    obtain ⟨h1, h2, h3⟩ := cp.see C y hy
    obtain ⟨m', hm', hl⟩ := S.ns
    cases hl y p e with
    | loc v a b c => exact absurd a h3
    | cell c v a b d g => exact .cell c v h1 (by show cl.lookup _ = _; rw [h2]; exact b) d g
  · cases e
end
end Mine
end
section
namespace Mine
section
variable {K : Frag} {h₀ : Heap} {prog : Program} {w : World} {n : Nat} {env : Env}
/-- as EvOk, in heaps that bear all that g bears -/
noncomputable def EvAt (g : Heap) (h₀ : Heap) (prog : Program) (w : World) (n : Nat) (env : Env) (e : Expr) (F : ET) : Prop :=
  ∀ (A : Around) (Z : Zm) (loc : Loc) (H : LH) (s : Shared) (Q : PV → LH → Prop) (Q' : Value → Shared → Prop) (E : Value → Shared → Prop),
    Rm n A → (∀ b o, g.get? b = some o → s.heap.get? b = some o) → Sat h₀ Z env loc H s.heap → F ⟨loc, H⟩ Q →
    (∀ v p Z' H' s', Ke h₀ env loc Z H s Z' H' s' → VR Z' p v → Q p H' → Q' v s') → wpAny (model prog w) A (eval e env) Q' E s
theorem EvOk.at {g : Heap} {e : Expr} {F : ET} (h : EvOk h₀ prog w n env e F) : EvAt g h₀ prog w n env e F := fun A Z loc H s Q Q' E rm _ S f q => h A Z loc H s Q Q' E rm S f q
/-- what is known while a comprehension runs: I the walker, D the list, C the block's names -/
structure Cs (h₀ : Heap) (env : Env) (loc : Loc) (Z : Zm) (H : LH) (s : Shared) (I D C : Addr) (Z' : Zm) (H' : LH) (ps : List PV) (s' : Shared) : Prop where
  sat : Sat h₀ Z' env loc H' s'.heap
  kp : Kp s s'
  fz : Fresh s Z Z'
  fh : FreshH s H H'
  lst : ∃ ys k, s'.heap.get? D = some { cls := .type "list", data := .seq (List.toArray ys) k } ∧ VRs Z' ps ys
  ns : ∃ m, s'.heap.Ns C m
  i0 : s.heap.get? I = none
  d0 : s.heap.get? D = none
  c0 : s.heap.get? C = none
  di : D ≠ I
  ci : C ≠ I
  cd : C ≠ D
  zi : Z' I = none
  zd : Z' D = none
  zc : Z' C = none
  hi : H' I = none
  hd : H' D = none
  hc : H' C = none
  li : ∃ o, s'.heap.get? I = some o
  s0 : Sat h₀ Z env loc H s.heap
section
variable {loc : Loc} {Z Z' : Zm} {H H' : LH} {s s' : Shared} {I D C : Addr} {ps : List PV}
theorem Cs.dAt (c : Cs h₀ env loc Z H s I D C Z' H' ps s') : ∃ o, s'.heap.get? D = some o := let ⟨_, _, e, _⟩ := c.lst; ⟨_, e⟩
theorem Cs.cAt (c : Cs h₀ env loc Z H s I D C Z' H' ps s') : ∃ o, s'.heap.get? C = some o := let ⟨_, o, _, _, e, _⟩ := c.ns; ⟨o, e⟩
/-- all is kept but one of the three -/
theorem Cs.turn {B : Addr} {h' : Heap} {tk : Nat} {ps' : List PV} (c : Cs h₀ env loc Z H s I D C Z' H' ps s') (hB : B = I ∨ B = D ∨ B = C) (hk : ∀ b o, b ≠ B → s'.heap.get? b = some o → h'.get? b = some o)
    (hl : ∃ ys k, h'.get? D = some { cls := .type "list", data := .seq (List.toArray ys) k } ∧ VRs Z' ps' ys) (hn : ∃ m, h'.Ns C m) (hi : ∃ o, h'.get? I = some o) : Cs h₀ env loc Z H s I D C Z' H' ps' { s' with heap := h', toks := tk } := by
  have b0 : s.heap.get? B = none := by rcases hB with h | h | h <;> rw [h] <;> first | exact c.i0 | exact c.d0 | exact c.c0
  have bz : Z' B = none := by rcases hB with h | h | h <;> rw [h] <;> first | exact c.zi | exact c.zd | exact c.zc
  have bh : H' B = none := by rcases hB with h | h | h <;> rw [h] <;> first | exact c.hi | exact c.hd | exact c.hc
  obtain ⟨hh, tt, rfl, kk⟩ := c.kp
  have ne0 : ∀ b o, s.heap.get? b = some o → b ≠ B := fun b o e h => by rw [h, b0] at e; cases e
  have keep0 : ∀ b o, s.heap.get? b = some o → h'.get? b = some o := fun b o e => hk b o (ne0 b o e) (kk b o e)
  have S' := c.sat
  -- the frame and its cells stood before
  have base : Sat h₀ Z' env loc H' h' := by
    refine ⟨S'.base, fun a o e => hk a o (fun h => by rw [h, bz] at e; cases e) (S'.frz a o e), S'.nsZ, ?_, S'.cellN, S'.kind, ?_, fun a l e => ?_⟩
    · intro m x hm
      obtain ⟨z, w', o, e, d⟩ := S'.cellZ m x hm
      obtain ⟨_, _, o0, e0, _⟩ := c.s0.cellZ m x hm
      exact ⟨z, w', o, hk x o (ne0 x o0 e0) e, d⟩
    · obtain ⟨m, hm, hl⟩ := S'.ns
      obtain ⟨oL, eL⟩ := c.s0.nsAt
      refine ⟨m, hm.at' fun o e => hk _ o (ne0 _ oL eL) e, fun y p e => ?_⟩
      cases hl y p e with
      | loc v a b c => exact .loc v a b c
      | cell x v a b d g =>
        obtain ⟨o, eo, d'⟩ := d
        obtain ⟨_, _, o0, e0, _⟩ := c.s0.cellZ _ x (mem_of_lookup b)
        exact .cell x v a b ⟨o, hk x o (ne0 x o0 e0) eo, d'⟩ g
    · obtain ⟨z, vs, k, e', r⟩ := S'.obj a l e
      exact ⟨z, vs, k, hk a _ (fun h => by rw [h, bh] at e; cases e) e', r⟩
  exact ⟨base, ⟨h', tk, rfl, keep0⟩, c.fz, c.fh, hl, hn, c.i0, c.d0, c.c0, c.di, c.ci, c.cd, c.zi, c.zd, c.zc, c.hi, c.hd, c.hc, hi, c.s0⟩
/-- a pure expression of the block's -/
theorem Cs.pure {env' : Env} {loc' : Loc} {Z₂ : Zm} {H₂ : LH} {s₂ : Shared} (c : Cs h₀ env loc Z H s I D C Z' H' ps s') (k : Ke h₀ env' loc' Z' H' s' Z₂ H₂ s₂) : Cs h₀ env loc Z H s I D C Z₂ H₂ ps s₂ := by
  have fz : ∀ {a : Addr}, (∃ o, s'.heap.get? a = some o) → Z' a = none → Z₂ a = none := fun {a} ⟨o, e⟩ hz => by
    cases q : Z₂ a with
    | none => rfl
    | some o' => have := k.fz.2 a hz (by rw [q]; exact Option.some_ne_none _); rw [e] at this; cases this
  have fh : ∀ {a : Addr}, (∃ o, s'.heap.get? a = some o) → H' a = none → H₂ a = none := fun {a} ⟨o, e⟩ hz => by
    cases q : H₂ a with
    | none => rfl
    | some o' => have := k.fh.2 a hz (by rw [q]; exact Option.some_ne_none _); rw [e] at this; cases this
  obtain ⟨ys, kk, e, r⟩ := c.lst
  obtain ⟨m, hm⟩ := c.ns
  obtain ⟨oI, eI⟩ := c.li
  exact ⟨c.sat.other k, c.kp.trans k.kp, c.fz.trans k.fz c.kp, c.fh.trans k.fh c.kp, ⟨ys, kk, k.kp.get e, r.mono k.fz.1⟩, ⟨m, hm.at' fun o e => k.kp.get e⟩, c.i0, c.d0, c.c0, c.di, c.ci, c.cd, fz c.li c.zi, fz c.dAt c.zd, fz c.cAt c.zc, fh c.li c.hi, fh c.dAt c.hd, fh c.cAt c.hc, ⟨oI, k.kp.get eI⟩, c.s0⟩
/-- what is known behind a comprehension's turns -/
structure Ce (h₀ : Heap) (env : Env) (loc : Loc) (Z : Zm) (H : LH) (s : Shared) (D C : Addr) (Z' : Zm) (H' : LH) (ps : List PV) (s' : Shared) : Prop where
  sat : Sat h₀ Z' env loc H' s'.heap
  kp : Kp s s'
  fz : Fresh s Z Z'
  fh : FreshH s H H'
  lst : ∃ ys k, s'.heap.get? D = some { cls := .type "list", data := .seq (List.toArray ys) k } ∧ VRs Z' ps ys
  ns : ∃ m, s'.heap.Ns C m
  d0 : s.heap.get? D = none
  c0 : s.heap.get? C = none
  cd : C ≠ D
  zd : Z' D = none
  zc : Z' C = none
  hd : H' D = none
  hc : H' C = none
theorem Cs.fin {h' : Heap} {tk : Nat} (c : Cs h₀ env loc Z H s I D C Z' H' ps s') (hk : ∀ b o, b ≠ I → s'.heap.get? b = some o → h'.get? b = some o) : Ce h₀ env loc Z H s D C Z' H' ps { s' with heap := h', toks := tk } := by
  obtain ⟨hh, tt, rfl, kk⟩ := c.kp
  have ne0 : ∀ b o, s.heap.get? b = some o → b ≠ I := fun b o e h => by rw [h, c.i0] at e; cases e
  have S' := c.sat
  refine ⟨⟨S'.base, fun a o e => hk a o (fun h => by rw [h, c.zi] at e; cases e) (S'.frz a o e), S'.nsZ, ?_, S'.cellN, S'.kind, ?_, fun a l e => ?_⟩, ⟨h', tk, rfl, fun b o e => hk b o (ne0 b o e) (kk b o e)⟩, c.fz, c.fh, ?_, ?_, c.d0, c.c0, c.cd, c.zd, c.zc, c.hd, c.hc⟩
  · intro m x hm
    obtain ⟨z, w', o, e, d⟩ := S'.cellZ m x hm
    obtain ⟨_, _, o0, e0, _⟩ := c.s0.cellZ m x hm
    exact ⟨z, w', o, hk x o (ne0 x o0 e0) e, d⟩
  · obtain ⟨m, hm, hl⟩ := S'.ns
    obtain ⟨oL, eL⟩ := c.s0.nsAt
    refine ⟨m, hm.at' fun o e => hk _ o (ne0 _ oL eL) e, fun y p e => ?_⟩
    cases hl y p e with
    | loc v a b c => exact .loc v a b c
    | cell x v a b d g =>
      obtain ⟨o, eo, d'⟩ := d
      obtain ⟨_, _, o0, e0, _⟩ := c.s0.cellZ _ x (mem_of_lookup b)
      exact .cell x v a b ⟨o, hk x o (ne0 x o0 e0) eo, d'⟩ g
  · obtain ⟨z, vs, k, e', r⟩ := S'.obj a l e
    exact ⟨z, vs, k, hk a _ (fun h => by rw [h, c.hi] at e; cases e) e', r⟩
  · obtain ⟨ys, k, e, r⟩ := c.lst
    exact ⟨ys, k, hk D _ c.di e, r⟩
  · obtain ⟨m, hm⟩ := c.ns
    exact ⟨m, hm.at' fun o e => hk C o c.ci e⟩
inductive CpI (h₀ : Heap) (env : Env) (loc : Loc) (Z : Zm) (H : LH) (s : Shared) (I D C : Addr) (Z₁ : Zm) (s' : Shared) (xs : List PV) (Sp : Nat → Heap → Prop) (fa : PV → St → (St → Prop) → Prop) (ft : BT) (fe : ET) (cap : Loc) (Q : List PV → LH → Prop) (k : Nat) (s₄ : Shared) : Prop
  | mk (i : Nat) (Z' : Zm) (H' : LH) (ps : List PV) (c : Cs h₀ env loc Z H s I D C Z' H' ps s₄) (st : Sp i s₄.heap) (le : Zle Z₁ Z') (keep : ∀ b o, s'.heap.get? b = some o → s₄.heap.get? b = some o) (hi : i ≤ xs.length) (hp : ps.length ≤ i) (hk : k = xs.length - i) (f : compW fa ft fe cap (xs.drop i) ps H' Q) : CpI h₀ env loc Z H s I D C Z₁ s' xs Sp fa ft fe cap Q k s₄
theorem compLoop_any {A : Around} {R : Result → Shared → Prop} {s : Shared} {elt target iter : Expr} {ifs : List Expr} {scope : Scope} {pos : Pos} {it acc : Value} {env : Env} (I : Nat → Shared → Prop)
    (turn : ∀ n s, I n s → wpAny (model prog w) A (pyNext it) (fun r s₁ => match r with
      | none => R (.ok .next) s₁
      | some v => wpAny (model prog w) A (letOwnedTupleGo target it v) (fun _ s₁' => wpAny (model prog w) A (assign target env v) (fun _ s₂ =>
          wpAny (model prog w) A (forIn ifs true fun c r => if r = true then do let ok ← isTrue c env (eval c env); pure (ForInStep.yield ok) else pure (ForInStep.yield r)) (fun ok s₃ =>
            if ok = true then wpAny (model prog w) A (eval elt env) (fun x s₄ =>
              wpAny (model prog w) A (call (.builtin "list.append") [acc, x]) (fun _ s₅ => ∃ m, m < n ∧ I m s₅) (notedBy (model prog w) A env fun e s' => R (.error e) s') s₄) (notedBy (model prog w) A env fun e s' => R (.error e) s') s₃
            else ∃ m, m < n ∧ I m s₃) (notedBy (model prog w) A env fun e s' => R (.error e) s') s₂) (notedBy (model prog w) A env fun e s' => R (.error e) s') s₁') (notedBy (model prog w) A env fun e s' => R (.error e) s') s₁) (notedBy (model prog w) A env fun e s' => R (.error e) s') s)
    (n : Nat) (h : I n s) : codeAny (model prog w) A (.compLoop (.ListComp elt [⟨target, iter, ifs, 0⟩] scope pos) 0 it acc env) R s := by
  refine codeAny_loop rfl I (fun n s hI => ?_) n h
  show wpAny _ A ((compTurn (.ListComp elt [⟨target, iter, ifs, 0⟩] scope pos) 0 it acc env).onRaise (fun x => do noteFrame x env; theTreesLotGoes x)) _ _ s
  refine wpAny_noted ?_
  rw [compTurn_list]
  refine wpAny_bind (wpAny_standAt (wpAny_bind (wpAny_mono (turn n s hI) (fun r s₁ h₁ => ?_) fun _ _ h' => h')))
  cases r with
  | none => exact wpAny_pure h₁
  | some v =>
    refine wpAny_bind (wpAny_mono h₁ (fun _ _ h₁ => ?_) fun _ _ h' => h')
    refine wpAny_bind (wpAny_mono h₁ (fun _ s₂ h₂ => wpAny_bind (wpAny_mono h₂ (fun ok s₃ h₃ => ?_) fun _ _ h' => h')) fun _ _ h' => h')
    cases ok with
    | false => exact wpAny_pure ⟨rfl, h₃⟩
    | true =>
      exact wpAny_bind (wpAny_bind (wpAny_mono h₃ (fun x s₄ h₄ => wpAny_bind (wpAny_mono h₄ (fun _ s₅ h₅ => wpAny_pure (wpAny_pure ⟨rfl, h₅⟩)) fun _ _ h' => h')) fun _ _ h' => h'))
theorem comp_loop {A : Around} {Z₁ : Zm} {H₁ : LH} {s₂ : Shared} {a : PV} {x : Value} {xs : List PV} {I : Addr} {fp wr : List Addr} {P : Nat → Value → Prop} {Sp : Nat → Heap → Prop} {elt t iter : Expr} {ifs : List Expr} {scope : Scope} {cl : List (Str × Addr)} {caps : List String} {pos : Pos}
    {fa : PV → St → (St → Prop) → Prop} {ft : BT} {fe : ET} {Q : List PV → LH → Prop} {RR : Value → Addr → Result → Shared → Prop} {E : Value → Shared → Prop}
    (rm : Rm n A) (k₁ : Ke h₀ env loc Z H s Z₁ H₁ s') (S : Sat h₀ Z env loc H s.heap) (va : VR Z₁ a x) (hit : iterOf H₁ a = some xs) (hsz : xs.length ≤ sizeLine)
    (Wk : Wk prog w A Z₁ xs I fp wr P Sp) (kp : Kp s' s₂) (hst : Sp 0 s₂.heap) (hI : s'.heap.get? I = none) (hlive : ∀ i h, Sp i h → ∃ o, h.get? I = some o) (hwr : wr = [I]) (hfp : ∀ b ∈ fp, b = I ∨ .ref b = x)
    (cp : Caps env scope cl caps) (hcell : ∀ y ∈ scope.names, y.2 ≠ .cell)
    (ha : ∀ C, AcOk h₀ prog w (compEnvC scope cl C env) t fa) (ht : ∀ C, TsOk h₀ prog w n (compEnvC scope cl C env) ifs ft) (he : ∀ C, EvAt s.heap h₀ prog w n (compEnvC scope cl C env) elt fe)
    (hlo : LoOk prog w A t I Sp fa) (f : compW fa ft fe (capLoc caps loc) xs [] H₁ Q)
    (hRR : ∀ D C Z' H' ps s₃, Ce h₀ env loc Z H s D C Z' H' ps s₃ → Q ps H' → RR (.ref D) C (.ok .next) s₃) :
    wpAny (model prog w) A (newList []) (fun acc s₃ => wpAny (model prog w) A (newFunctionEnv scope env.globals cl [] env.qual none .none (some env)) (fun cenv s₄ =>
      codeAny (model prog w) A (.compStart (.ListComp elt [⟨t, iter, ifs, 0⟩] scope pos) 0 (.ref I) acc { cenv with scope := relabel scope env }) (RR acc cenv.locals) s₄) E s₃) E s₂ := by
  obtain ⟨oI, eI⟩ := hlive _ _ hst
  have hIs : s.heap.get? I = none := k₁.kp.none hI
  have k₂ := k₁.trans (Ke.keep k₁.sat kp)
  have zI : Z₁ I = none := by
    cases q1 : Z₁ I with
    | none => rfl
    | some o => have := k₁.sat.frz I o q1; rw [hI] at this; cases this
  have hI₁ : H₁ I = none := by
    cases q1 : H₁ I with
    | none => rfl
    | some l => obtain ⟨_, _, _, e, _⟩ := k₁.sat.obj I l q1; rw [hI] at e; cases e
  refine wpAny_newObj_type (wpAny_newFunctionEnv hcell (by intro y hy; simp at hy) (fun h₁ hns₁ hsb₁ => ?_) cp.kind)
  dsimp only at hns₁ hsb₁ ⊢
  generalize hH2 : s₂.heap.push { cls := .type "list", dict := none, data := .seq ([] : List Value).toArray } = H2 at hns₁ hsb₁ ⊢
  generalize hD : s₂.heap.objs.size = D at hns₁ hsb₁ ⊢
  generalize hC : H2.objs.size = C at hns₁ hsb₁ ⊢
  have hCD : C = D + 1 := by rw [← hC, ← hH2, Heap.size_push, hD]
  have hCneD : C ≠ D := by (first | lia | omega)
  have d2 : s₂.heap.get? D = none := by rw [← hD]; exact get_size _
  have c2 : s₂.heap.get? C = none := by
    cases q1 : s₂.heap.get? C with
    | none => rfl
    | some o => have := Heap.lt_size q1; rw [hD, hCD] at this; exact absurd this (Nat.not_lt.mpr (Nat.le_succ D))
  have old : ∀ b o, s₂.heap.get? b = some o → h₁.get? b = some o := fun b o e => by
    have h1 : H2.get? b = some o := hH2 ▸ Heap.get?_push_of_some _ e
    have hb : b ≠ C := fun h => by rw [h, c2] at e; cases e
    exact hsb₁.extBut b o hb (Heap.get?_push_of_some _ h1)
  have hDat : h₁.get? D = some { cls := .type "list", data := .seq (List.toArray ([] : List Value)) 0 } := by
    have h1 : H2.get? D = some { cls := .type "list", data := .seq (List.toArray ([] : List Value)) 0 } := by rw [← hH2, ← hD]; exact Heap.get?_push_size _ rfl
    exact hsb₁.extBut D _ (Ne.symm hCneD) (Heap.get?_push_of_some _ h1)
  have n0 : ∀ {B : Addr}, s₂.heap.get? B = none → s.heap.get? B = none := fun {B} e => k₂.kp.none e
  have zN : ∀ {B : Addr}, s₂.heap.get? B = none → Z₁ B = none := fun {B} e => by
    cases q1 : Z₁ B with
    | none => rfl
    | some o => have := k₂.sat.frz B o q1; rw [e] at this; cases this
  have hN : ∀ {B : Addr}, s₂.heap.get? B = none → H₁ B = none := fun {B} e => by
    cases q1 : H₁ B with
    | none => rfl
    | some o => obtain ⟨_, _, _, e', _⟩ := k₂.sat.obj B o q1; rw [e] at e'; cases e'
  have dI : D ≠ I := fun h => by rw [h, eI] at d2; cases d2
  have cI : C ≠ I := fun h => by rw [h, eI] at c2; cases c2
  have kp₃ : Kp s₂ { s₂ with heap := h₁, toks := s₂.toks + ([] : List (Str × Value)).length } := ⟨h₁, _, rfl, old⟩
  have c₀ : Cs h₀ env loc Z H s I D C Z₁ H₁ [] { s₂ with heap := h₁, toks := s₂.toks + ([] : List (Str × Value)).length } :=
    ⟨k₂.sat.keeps old, k₂.kp.trans kp₃, k₁.fz, k₁.fh, ⟨[], 0, hDat, .nil⟩, ⟨_, hns₁⟩, hIs, n0 d2, n0 c2, dI, cI, hCneD, zI, zN d2, zN c2, hI₁, hN d2, hN c2, ⟨oI, old I oI eI⟩, S⟩
  have frozen : ∀ b ∈ fp, b ≠ I → (∃ o, Z₁ b = some o) ∨ ∃ l, H₁ b = some l := fun b hb hne => by
    rcases hfp b hb with h | h
    · exact absurd h hne
    · cases va with
      | tup z r => cases h; exact .inl ⟨_, z⟩
      | lst z r => cases h; exact .inl ⟨_, z⟩
      | rng z => cases h; exact .inl ⟨_, z⟩
      | ref a =>
        cases h
        change (H₁ b).map (·.xs) = some xs at hit
        cases q1 : H₁ b with
        | none => rw [q1] at hit; cases hit
        | some l => exact .inr ⟨l, rfl⟩
      | raw v => cases hit
      | obj z _ _ => cases hit
      | _ => cases h
  have hst₁ : Sp 0 h₁ := Wk.walks.frame _ _ _ hst fun b _ o e => old b o e
  have nI : ∀ b, b ≠ I → b ∉ wr := fun b hb hm => by rw [hwr] at hm; exact hb (List.mem_singleton.mp hm)
  have fpIn : ∀ b ∈ fp, b ≠ I → ∃ o, s'.heap.get? b = some o := fun b hb hne => by
    rcases frozen b hb hne with ⟨o, z⟩ | ⟨l, hl⟩
    · exact ⟨o, k₁.sat.frz b o z⟩
    · obtain ⟨_, _, _, e, _⟩ := k₁.sat.obj b l hl; exact ⟨_, e⟩
  have loop : ∀ s₃ : Shared, s₃ = { s₂ with heap := h₁, toks := s₂.toks + ([] : List (Str × Value)).length } →
      codeAny (model prog w) A (.compLoop (.ListComp elt [⟨t, iter, ifs, 0⟩] scope pos) 0 (.ref I) (.ref D) (compEnvC scope cl C env)) (RR (.ref D) C) s₃ := by
    rintro s₃ rfl
    refine compLoop_any (CpI h₀ env loc Z H s I D C Z₁ s' xs Sp fa ft fe (capLoc caps loc) Q) ?_ xs.length
      ⟨0, Z₁, H₁, [], c₀, hst₁, Zle.refl _, fun b o e => old b o (kp.get e), Nat.zero_le _, Nat.le_refl _, rfl, f⟩
    intro k s₄ hI'
    obtain ⟨i, Z', H', ps, c, hst', hle, hkeep, hi, hpl, rfl, f'⟩ := hI'
    by_cases hlt : i < xs.length
    · refine Wk.walks.item i s₄ _ _ hlt hst' fun v h' tk hP hst₅ hk₅ => ?_
      obtain ⟨p, hp, vp⟩ := Wk.item i v hP
      have hd : xs.drop i = p :: xs.drop (i + 1) := by
        rw [List.drop_eq_getElem_cons hlt]
        congr 1
        have := List.getElem?_eq_getElem hlt
        rw [this] at hp; exact Option.some.inj hp
      rw [hd] at f'
      obtain ⟨ys, kk, eD, rD⟩ := c.lst
      obtain ⟨m, hm⟩ := c.ns
      have c₁ : Cs h₀ env loc Z H s I D C Z' H' ps { s₄ with heap := h', toks := tk } :=
        c.turn (.inl rfl) (fun b o hb e => hk₅ b o (nI b hb) e) ⟨ys, kk, hk₅ D _ (nI D c.di) eD, rD⟩ ⟨m, hm.at' fun o e => hk₅ C o (nI C c.ci) e⟩ (hlive _ _ hst₅)
      have keep₁ : ∀ b o, s'.heap.get? b = some o → h'.get? b = some o := fun b o e => hk₅ b o (nI b fun h => by rw [h, hI] at e; cases e) (hkeep b o e)
      obtain ⟨m₁, hm₁⟩ := c₁.ns
      have Sb := c₁.sat.block cp hm₁ c₁.zc
      refine hlo (i + 1) _ _ _ _ _ _ _ _ hst₅ vp f' ?_
      refine ha C A Z' (capLoc caps loc) H' _ p v _ _ _ rm.hd Sb (vp.mono hle) f' fun loc₂ s₅ sa f₂ => ?_
      obtain ⟨h₅, t₅, e₅⟩ := sa.sh
      have kp₅ : ∀ b o, b ≠ C → h'.get? b = some o → h₅.get? b = some o := fun b o hb e => by have := sa.kp b o hb e; rw [e₅] at this; exact this
      have n₅ : ∃ m, h₅.Ns C m := by obtain ⟨m, hm, _⟩ := sa.sat.ns; rw [e₅] at hm; exact ⟨m, hm⟩
      obtain ⟨oI₁, eI₁⟩ := c₁.li
      obtain ⟨ys₁, kk₁, eD₁, rD₁⟩ := c₁.lst
      have c₂ : Cs h₀ env loc Z H s I D C Z' H' ps s₅ := by
        rw [e₅]
        exact c₁.turn (.inr (.inr rfl)) (fun b o hb e => kp₅ b o hb e) ⟨ys₁, kk₁, kp₅ D _ (Ne.symm c.cd) eD₁, rD₁⟩ n₅ ⟨oI₁, kp₅ I oI₁ (Ne.symm c.ci) eI₁⟩
      have notC : ∀ b o, s'.heap.get? b = some o → b ≠ C := fun b o e h => by have := kp.get e; rw [h, c2] at this; cases this
      have notD : ∀ b o, s'.heap.get? b = some o → b ≠ D := fun b o e h => by have := kp.get e; rw [h, d2] at this; cases this
      have keep₂ : ∀ b o, s'.heap.get? b = some o → s₅.heap.get? b = some o := fun b o e => by rw [e₅]; exact kp₅ b o (notC b o e) (keep₁ b o e)
      have st₂ : Sp (i + 1) s₅.heap := by
        refine Wk.walks.frame (i + 1) h' s₅.heap hst₅ fun b hb o e => ?_
        rw [e₅]
        refine kp₅ b o (fun h => ?_) e
        by_cases hbI : b = I
        · rw [hbI] at h; exact c.ci h.symm
        · obtain ⟨o', eo⟩ := fpIn b hb hbI
          exact notC b o' eo h
      refine ht C A Z' loc₂ H' s₅ _ _ _ rm sa.sat f₂ fun ok Z₃ H₃ s₆ k₃ f₃ => ?_
      have c₃ := c₂.pure k₃
      have st₃ : Sp (i + 1) s₆.heap := Wk.walks.frame _ _ _ st₂ fun b _ o e => k₃.kp.get e
      have keep₃ : ∀ b o, s'.heap.get? b = some o → s₆.heap.get? b = some o := fun b o e => k₃.kp.get (keep₂ b o e)
      cases ok with
      | false =>
        rw [if_neg (by decide)]
        exact ⟨xs.length - (i + 1), by (first | lia | omega), i + 1, Z₃, H₃, ps, c₃, st₃, hle.trans k₃.fz.1, keep₃, hlt, by (first | lia | omega), rfl, f₃⟩
      | true =>
        rw [if_pos rfl]
        refine he C A Z₃ loc₂ H₃ s₆ _ _ _ rm (fun b o e => c₃.kp.get e) k₃.sat f₃ fun y py Z₄ H₄ s₇ k₄ vy f₄ => ?_
        have c₄ := c₃.pure k₄
        have st₄ : Sp (i + 1) s₇.heap := Wk.walks.frame _ _ _ st₃ fun b _ o e => k₄.kp.get e
        have keep₄ : ∀ b o, s'.heap.get? b = some o → s₇.heap.get? b = some o := fun b o e => k₄.kp.get (keep₃ b o e)
        obtain ⟨ys₄, kk₄, eD₄, rD₄⟩ := c₄.lst
        refine wpAny_list_append_plain (items := ys₄.toArray) ⟨kk₄, eD₄⟩ (fun h₈ hl₈ hs₈ => ?_) (by rw [List.size_toArray, rD₄.length]; (first | lia | omega))
        obtain ⟨k₈, e₈⟩ := hl₈
        have ks : ∀ b o, b ≠ D → s₇.heap.get? b = some o → h₈.get? b = some o := fun b o hb e => hs₈.extBut b o hb e
        obtain ⟨m₄, hm₄⟩ := c₄.ns
        obtain ⟨oI₄, eI₄⟩ := c₄.li
        have c₅ : Cs h₀ env loc Z H s I D C Z₄ H₄ (ps ++ [py]) { s₇ with heap := h₈, toks := s₇.toks } :=
          c₄.turn (.inr (.inl rfl)) ks ⟨ys₄ ++ [y], k₈, by rw [e₈]; simp, rD₄.append (.cons vy .nil)⟩ ⟨m₄, hm₄.at' fun o e => ks C o c.cd e⟩ ⟨oI₄, ks I oI₄ (Ne.symm c.di) eI₄⟩
        refine ⟨xs.length - (i + 1), by (first | lia | omega), i + 1, Z₄, H₄, ps ++ [py], c₅, ?_, (hle.trans k₃.fz.1).trans k₄.fz.1, fun b o e => ks b o (notD b o e) (keep₄ b o e), hlt, by simp; (first | lia | omega), rfl, f₄⟩
        refine Wk.walks.frame (i + 1) s₇.heap h₈ st₄ fun b hb o e => ks b o (fun h => ?_) e
        by_cases hbI : b = I
        · rw [hbI] at h; exact c.di h.symm
        · obtain ⟨o', eo⟩ := fpIn b hb hbI
          exact notD b o' eo h
    · have hin : i = xs.length := by (first | lia | omega)
      subst hin
      refine Wk.walks.done s₄ _ _ hst' fun h' tk hk₅ => ?_
      rw [List.drop_length] at f'
      have cE : Ce h₀ env loc Z H s D C Z' H' ps { s₄ with heap := h', toks := tk } := c.fin fun b o hb e => hk₅ b o (nI b hb) e
      exact hRR D C Z' H' ps _ cE f'
  exact codeAny_compStart_list (loop _ rfl) (Wk.walks.self 0 _ _ _ hst₁ (loop _ rfl))
end
end
end Mine
end
section
namespace Mine
section
variable {K : Frag} {h₀ : Heap} {prog : Program} {w : World} {n : Nat} {env : Env} {loc : Loc} {Z Z' : Zm} {H H' : LH} {h h' : Heap} {s s' : Shared}
theorem Sat.but {B : Addr} (S : Sat h₀ Z env loc H h) (hk : ∀ b o, b ≠ B → h.get? b = some o → h'.get? b = some o) (hL : env.locals ≠ B) (hC : ∀ m c, (m, c) ∈ env.cells → c ≠ B) (hZ : Z B = none) (hH : H B = none) : Sat h₀ Z env loc H h' := by
  refine ⟨S.base, fun a o e => hk a o (fun h => by rw [h, hZ] at e; cases e) (S.frz a o e), S.nsZ, ?_, S.cellN, S.kind, ?_, fun a l e => ?_⟩
  · intro m x hm
    obtain ⟨z, w', o, e, d⟩ := S.cellZ m x hm
    exact ⟨z, w', o, hk x o (hC m x hm) e, d⟩
  · obtain ⟨m, hm, hl⟩ := S.ns
    refine ⟨m, hm.at' fun o e => hk _ o hL e, fun y p e => ?_⟩
    cases hl y p e with
    | loc v a b c => exact .loc v a b c
    | cell x v a b d g =>
      obtain ⟨o, eo, d'⟩ := d
      exact .cell x v a b ⟨o, hk x o (hC _ x (mem_of_lookup b)) eo, d'⟩ g
  · obtain ⟨z, vs, k, e', r⟩ := S.obj a l e
    exact ⟨z, vs, k, hk a _ (fun h => by rw [h, hH] at e; cases e) e', r⟩
theorem Sat.addFrozen {D : Addr} {o : Obj} (S : Sat h₀ Z env loc H h) (ho : h.get? D = some o) (hL : env.locals ≠ D) (hC : ∀ m c, (m, c) ∈ env.cells → c ≠ D) (hZ : Z D = none) (hH : H D = none) : Sat h₀ (Z.set D o) env loc H h := by
  refine S.freeze (Zm.le_set o hZ) ?_ ?_ ?_ ?_
  · intro b o' e
    unfold Zm.set at e
    by_cases hb : b = D
    · rw [if_pos hb] at e; cases e; rw [hb]; exact ho
    · rw [if_neg hb] at e; exact S.frz b o' e
  · unfold Zm.set; rw [if_neg hL]; exact S.nsZ
  · intro m c hm; unfold Zm.set; rw [if_neg (hC m c hm)]; exact (S.cellZ m c hm).1
  · intro a l e; unfold Zm.set; rw [if_neg (fun h => by rw [h, hH] at e; cases e)]; exact (S.obj a l e).1
theorem Sat.addList {D : Addr} {vs : List Value} {k : Nat} {l : LO} (S : Sat h₀ Z env loc H h) (ho : h.get? D = some { cls := .type "list", data := .seq vs.toArray k }) (hZ : Z D = none) (hv : VRs Z l.xs vs) : Sat h₀ Z env loc (H.set D l) h where
  base := S.base
  frz := S.frz
  nsZ := S.nsZ
  cellZ := S.cellZ
  cellN := S.cellN
  kind := S.kind
  ns := S.ns
  obj := fun b l' e => by
    by_cases hb : b = D
    · subst hb
      rw [LH.set_self] at e; cases e
      exact ⟨hZ, vs, k, ho, hv⟩
    · rw [LH.set_ne _ _ hb] at e
      exact S.obj b l' e
theorem FreshH.set {D : Addr} {l : LO} (f : FreshH s H H') (hD : H' D = none) (h0 : s.heap.get? D = none) : FreshH s H (H'.set D l) :=
  ⟨fun a l' e => by
    have := f.1 a l' e
    rw [LH.set_ne _ _ (fun h => by rw [h, hD] at this; cases this)]; exact this, fun a h1 h2 => by
    by_cases ha : a = D
    · rw [ha]; exact h0
    · rw [LH.set_ne _ _ ha] at h2; exact f.2 a h1 h2⟩
theorem Fresh.set {D : Addr} {o : Obj} (f : Fresh s Z Z') (hD : Z' D = none) (h0 : s.heap.get? D = none) : Fresh s Z (Z'.set D o) :=
  ⟨f.1.trans (Zm.le_set o hD), fun a h1 h2 => by
    by_cases ha : a = D
    · rw [ha]; exact h0
    · unfold Zm.set at h2; rw [if_neg ha] at h2; exact f.2 a h1 h2⟩
/-- the list of a comprehension, had by value or by address -/
theorem Ce.done {D C : Addr} {ps : List PV} {Q : PV → LH → Prop} {Q' : Value → Shared → Prop} (c : Ce h₀ env loc Z H s D C Z' H' ps s') (S : Sat h₀ Z env loc H s.heap) (hs : ∀ b o, b ≠ C → s'.heap.get? b = some o → h'.get? b = some o) (f : listW ps H' Q)
    (q : ∀ v p Z' H' s', Ke h₀ env loc Z H s Z' H' s' → VR Z' p v → Q p H' → Q' v s') : Q' (.ref D) { s' with heap := h' } := by
  obtain ⟨oL, eL⟩ := S.nsAt
  have lD : env.locals ≠ D := fun h => by rw [h, c.d0] at eL; cases eL
  have lC : env.locals ≠ C := fun h => by rw [h, c.c0] at eL; cases eL
  have xD : ∀ m x, (m, x) ∈ env.cells → x ≠ D := fun m x hm h => by obtain ⟨_, _, o, e, _⟩ := S.cellZ m x hm; rw [h, c.d0] at e; cases e
  have xC : ∀ m x, (m, x) ∈ env.cells → x ≠ C := fun m x hm h => by obtain ⟨_, _, o, e, _⟩ := S.cellZ m x hm; rw [h, c.c0] at e; cases e
  have S₁ : Sat h₀ Z' env loc H' h' := c.sat.but hs lC xC c.zc c.hc
  obtain ⟨ys, k, e, r⟩ := c.lst
  have eD := hs D _ (Ne.symm c.cd) e
  have kp : Kp s { s' with heap := h' } := by
    obtain ⟨hh, tk, rfl, kk⟩ := c.kp
    exact ⟨h', tk, rfl, fun b o eb => hs b o (fun hb => by rw [hb, c.c0] at eb; cases eb) (kk b o eb)⟩
  rcases f with f | f
  · exact q _ _ _ _ _ ⟨S₁.addFrozen eD lD xD c.zd c.hd, kp, c.fz.set c.zd c.d0, c.fh⟩ (.lst (Zm.set_self _ _ _) (r.mono (Zm.le_set _ c.zd))) f
  · exact q _ _ _ _ _ ⟨S₁.addList (l := ⟨true, ps⟩) eD c.zd r, kp, c.fz, c.fh.set c.hd c.d0⟩ (.ref D) (f D c.hd)
theorem Ce.both {D C : Addr} {ps : List PV} {Q : PV → LH → Prop} (c : Ce h₀ env loc Z H s D C Z' H' ps s') (S : Sat h₀ Z env loc H s.heap) (f : listW ps H' Q) :
    ∃ p Z₂ H₂, Ke h₀ env loc Z H s Z₂ H₂ s' ∧ VR Z₂ p (.ref D) ∧ Q p H₂ ∧ Z₂ C = none ∧ H₂ C = none := by
  obtain ⟨oL, eL⟩ := S.nsAt
  have lD : env.locals ≠ D := fun h => by rw [h, c.d0] at eL; cases eL
  have xD : ∀ m x, (m, x) ∈ env.cells → x ≠ D := fun m x hm h => by obtain ⟨_, _, o, e, _⟩ := S.cellZ m x hm; rw [h, c.d0] at e; cases e
  obtain ⟨ys, k, e, r⟩ := c.lst
  rcases f with f | f
  · exact ⟨_, _, _, ⟨c.sat.addFrozen e lD xD c.zd c.hd, c.kp, c.fz.set c.zd c.d0, c.fh⟩, .lst (Zm.set_self _ _ _) (r.mono (Zm.le_set _ c.zd)), f, by unfold Zm.set; rw [if_neg c.cd]; exact c.zc, c.hc⟩
  · exact ⟨_, _, _, ⟨c.sat.addList (l := ⟨true, ps⟩) e c.zd r, c.kp, c.fz, c.fh.set c.hd c.d0⟩, .ref D, f D c.hd, c.zc, by rw [LH.set_ne _ _ c.cd]; exact c.hc⟩
theorem ev_comp {elt t iter : Expr} {ifs : List Expr} {scope : Scope} {cl : List (Str × Addr)} {caps : List String} {pos : Pos} {fi : ET} {fa : PV → St → (St → Prop) → Prop} {ft : BT} {fe : ET}
    (hi : EvOk h₀ prog w n env iter fi) (hclos : closureFor scope env = pure cl) (cp : Caps env scope cl caps) (hcell : ∀ y ∈ scope.names, y.2 ≠ .cell) (hnames : ∀ y ∈ scope.names, y.2 = .local → scope.names.lookup y.1 = some .local)
    (ha : ∀ C, AcOk h₀ prog w (compEnvC scope cl C env) t fa) (ht : ∀ C, TsOk h₀ prog w n (compEnvC scope cl C env) ifs ft) (he : ∀ C, EvOk h₀ prog w n (compEnvC scope cl C env) elt fe)
    (htg : ∀ i v, letOwnedTupleGo t i v = pure () := by intro _ _; rfl) (hs : ∀ x, foldedSetIterable iter env x = pure x := by intro _; rfl) :
    EvOk h₀ prog w n env (.ListComp elt [⟨t, iter, ifs, 0⟩] scope pos) (fun σ Q => fi σ fun a H₁ => ∃ xs, iterOf H₁ a = some xs ∧ xs.length ≤ sizeLine ∧ compW fa ft fe (capLoc caps σ.loc) xs [] H₁ fun ps H₂ => listW ps H₂ Q) := by
  intro A Z loc H s Q Q' E rm S f q
  rw [eval_ListComp]
  refine wpAny_comprehension_free (use := none) rfl hs hclos cp.kind hnames (hi A Z loc H s _ _ _ rm S f fun x a Z₁ H₁ s₁ k₁ va f₁ => ?_)
  obtain ⟨xs, hit, hsz, f₁⟩ := f₁
  refine iter_ok rm k₁.sat va hit fun I fp wr P Sp s₂ Wk kp hst hI hlive hwr hfp _ => ?_
  refine comp_loop (RR := fun acc C => compPost (model prog w) A E none Q' acc C) rm k₁ S va hit hsz Wk kp hst hI hlive hwr hfp cp hcell ha ht (fun C => (he C).at) (lo_plain htg) f₁ ?_
  intro D C Z' H' ps s₃ c fq
  obtain ⟨m, hm⟩ := c.ns
  exact ⟨m, hm, fun h' hs' => c.done S (fun b o hb e => hs'.extBut b o hb e) fq q⟩
/-- x = [.. for ..] where the store comes ahead of the block's end -/
theorem st_assign_comp {elt t iter : Expr} {ifs : List Expr} {scope : Scope} {cl : List (Str × Addr)} {caps : List String} {pos spos py : Pos} {y : String} {fi : ET} {fa : PV → St → (St → Prop) → Prop} {ft : BT} {fe : ET}
    (hi : EvOk h₀ prog w n env iter fi) (hclos : closureFor scope env = pure cl) (cp : Caps env scope cl caps) (hcell : ∀ y ∈ scope.names, y.2 ≠ .cell) (hnames : ∀ y ∈ scope.names, y.2 = .local → scope.names.lookup y.1 = some .local)
    (ha : ∀ C, AcOk h₀ prog w (compEnvC scope cl C env) t fa) (ht : ∀ C, TsOk h₀ prog w n (compEnvC scope cl C env) ifs ft) (he : ∀ C, EvOk h₀ prog w n (compEnvC scope cl C env) elt fe) (hk : Stores env y)
    (hsw : swapsWith (.ListComp elt [⟨t, iter, ifs, 0⟩] scope pos) (some (.Name (Str.ofString y) py)) spos.line env = pure true := by rfl)
    (htg : ∀ i v, letOwnedTupleGo t i v = pure () := by intro _ _; rfl) (hs : ∀ x, foldedSetIterable iter env x = pure x := by intro _; rfl) :
    ExOk h₀ prog w n env (.Assign [.Name (Str.ofString y) py] (.ListComp elt [⟨t, iter, ifs, 0⟩] scope pos) spos)
      (fun σ Q => fi σ fun a H₁ => ∃ xs, iterOf H₁ a = some xs ∧ xs.length ≤ sizeLine ∧ compW fa ft fe (capLoc caps σ.loc) xs [] H₁ fun ps H₂ => listW ps H₂ fun p H₃ => Q .next ⟨σ.loc.set y p, H₃⟩) := by
  intro A Z loc H s Q Q' E rm S f q
  rw [exec_Assign_Name_used _ _ _ _ hsw]
  refine wpAny_bind (wpAny_standAt (wpAny_bind ?_))
  show wpAny _ A (do let _ ← comprehension (.ListComp elt [⟨t, iter, ifs, 0⟩] scope pos) scope env _ (newList []) false (eval iter env) (some (assign (.Name (Str.ofString y) py) env))) _ _ s
  refine wpAny_bind (wpAny_mono (wpAny_comprehension_free (use := some (assign (.Name (Str.ofString y) py) env)) (Q := fun _ s' => Q' .next s') rfl hs hclos cp.kind hnames
    (hi A Z loc H s _ _ _ rm S f fun x a Z₁ H₁ s₁ k₁ va f₁ => ?_)) (fun _ s' hq => wpAny_pure (wpAny_pure hq)) fun _ _ e => e)
  obtain ⟨xs, hit, hsz, f₁⟩ := f₁
  refine iter_ok rm k₁.sat va hit fun I fp wr P Sp s₂ Wk kp hst hI hlive hwr hfp _ => ?_
  refine comp_loop (RR := fun acc C => compPost (model prog w) A E (some (assign (.Name (Str.ofString y) py) env)) (fun _ s' => Q' .next s') acc C) rm k₁ S va hit hsz Wk kp hst hI hlive hwr hfp cp hcell ha ht (fun C => (he C).at) (lo_plain htg) f₁ ?_
  intro D C Z' H' ps s₃ c fq
  show wpAny _ A (assign (.Name (Str.ofString y) py) env (.ref D)) _ _ s₃
  refine wpAny_assign_Name ?_
  obtain ⟨oC, eC⟩ : ∃ o, s₃.heap.get? C = some o := let ⟨_, o, _, _, e, _⟩ := c.ns; ⟨o, e⟩
  obtain ⟨oL, eL⟩ := S.nsAt
  have lC : env.locals ≠ C := fun h => by rw [h, c.c0] at eL; cases eL
  have xC : ∀ m, (m, C) ∉ env.cells := fun m hm => by obtain ⟨_, _, o, e, _⟩ := S.cellZ m C hm; rw [c.c0] at e; cases e
  obtain ⟨p, Z₂, H₂, k, vr, fp, zC, hC⟩ := c.both S fq
  refine store_ok k.sat vr hk fun s'' k₂ => ?_
  have K := k.sk.trans k₂
  have eC' := k₂.frm C oC eC (Ne.symm lC) xC fun xs hx => by rw [hC] at hx; cases hx
  obtain ⟨m, hm⟩ := c.ns
  refine ⟨m, hm.at' fun o e => ?_, fun h' hs' => ?_⟩
  · rw [eC] at e; cases e; exact eC'
  · exact q _ _ _ _ _ _ (K.walk (tk := s''.toks) S (fun b o hb e => hs'.extBut b o hb e) c.c0 zC hC) .next fp
end
end Mine
end
section
namespace Mine
section
variable {K : Frag} {h₀ : Heap} {prog : Program} {w : World} {env : Env} {pos : Pos}
theorem nm_len (G : Gr K h₀) (e : nsIn K mainGlobals (Str.ofString "len") = some none) (hx : env.kindOf (Str.ofString "len") = some .globalImplicit) (hg : env.globals = mainGlobals) (hb : env.builtins = builtinsNs) : NmOk h₀ prog w env (.Name (Str.ofString "len") pos) (.builtin "len") :=
  nm_boot G e (by decide +kernel) (by decide) hx hg hb (by decide)
theorem nm_chr (G : Gr K h₀) (e : nsIn K mainGlobals (Str.ofString "chr") = some none) (hx : env.kindOf (Str.ofString "chr") = some .globalImplicit) (hg : env.globals = mainGlobals) (hb : env.builtins = builtinsNs) : NmOk h₀ prog w env (.Name (Str.ofString "chr") pos) (.builtin "chr") :=
  nm_boot G e (by decide +kernel) (by decide) hx hg hb (by decide)
theorem nm_range (G : Gr K h₀) (e : nsIn K mainGlobals (Str.ofString "range") = some none) (hx : env.kindOf (Str.ofString "range") = some .globalImplicit) (hg : env.globals = mainGlobals) (hb : env.builtins = builtinsNs) : NmOk h₀ prog w env (.Name (Str.ofString "range") pos) (.type "range") :=
  nm_boot G e (by decide +kernel) (by decide) hx hg hb (by decide)
theorem nm_sum (G : Gr K h₀) (e : nsIn K mainGlobals (Str.ofString "sum") = some none) (hx : env.kindOf (Str.ofString "sum") = some .globalImplicit) (hg : env.globals = mainGlobals) (hb : env.builtins = builtinsNs) : NmOk h₀ prog w env (.Name (Str.ofString "sum") pos) (.builtin "sum") :=
  nm_boot G e (by decide +kernel) (by decide) hx hg hb (by decide)
theorem nm_max (G : Gr K h₀) (e : nsIn K mainGlobals (Str.ofString "max") = some none) (hx : env.kindOf (Str.ofString "max") = some .globalImplicit) (hg : env.globals = mainGlobals) (hb : env.builtins = builtinsNs) : NmOk h₀ prog w env (.Name (Str.ofString "max") pos) (.builtin "max") :=
  nm_boot G e (by decide +kernel) (by decide) hx hg hb (by decide)
end
end Mine
end
section
namespace Mine
/-- a def of the text's, its parameters, its body as a transformer -/
noncomputable def Fn (K : Frag) (w : World) (f : Addr) (names : List String) (n : Nat) (Fb : XT) : Prop :=
  keepIn K (.ref f) = true ∧ ∀ (h₀ : Heap) (prog : Program) (env : Env), Gr K h₀ → ∀ loc Z H s ps vs, Sat h₀ Z env loc H s.heap → VRs Z ps vs → OpOk h₀ prog w (n + 1) env loc Z H s (call (.ref f) vs) (fun Q => ps.length = names.length ∧ callW names Fb ps H Q)
theorem Fn.intro {K : Frag} {w : World} {n : Nat} {name qual : Str} {params : Arguments} {body : List Stmt} {scope : Scope} {dV kV doc pm cdv ct oc : Value} {an od : Option Addr} {osl : Array (Option Value)} {f : Addr} {names : List String} {Fb : XT}
    (ho : K.lookup f = some ⟨oc, od, .func (fnOf name qual params body scope dV kV doc pm an cdv ct), osl⟩) (hcd : codeIn K cdv qual = true) (hkp : keepIn K (.ref f) = true)
    (hco : scope.isCoroutine = false) (hgen : scope.isGenerator = false) (hk : scope.kind = .function)
    (hbind : ∀ s vs, vs.length = names.length → BindsTo s (fnOf name qual params body scope dV kV doc pm an cdv ct) ⟨vs, []⟩ ((names.map Str.ofString).zip vs))
    (hkind : (names.all fun y => scope.names.lookup (Str.ofString y) == some .local || scope.names.lookup (Str.ofString y) == some .cell) = true) (hnn : names.Nodup) (hnd : ((cellsFrom 0 scope.names []).map (·.1)).Nodup)
    (hb : ∀ h₀ prog, Gr K h₀ → ∀ L', XsOk h₀ prog w n (envOfC qual scope L' f cdv) body Fb) : Fn K w f names n Fb :=
  ⟨hkp, fun h₀ prog env G => fn_ok G ho hcd hco hgen hk hbind hkind hnn hnd (hb h₀ prog G)⟩
/-- a call of it -/
theorem ev_fn {K : Frag} {h₀ : Heap} {prog : Program} {w : World} {n k : Nat} {env : Env} {x : Str} {f : Addr} {names : List String} {Fb : XT} {p pos : Pos} {e : Expr} {rest : List Expr} {F : EsT} (G : Gr K h₀) (hf : Fn K w f names k Fb)
    (hn : nsIn K mainGlobals x = some (some (.ref f))) (hx : env.kindOf x = some .globalImplicit) (hg : env.globals = mainGlobals) (hd : (x == ("__debug__" : Str)) = false) (hkn : k + 1 ≤ n) (hes : EsOk h₀ prog w n env (e :: rest) F)
    (hs : starEach (e :: rest) env = (false, eval e env) :: starEach rest env := by rfl) (hp : (backTo pos (starEach rest env)).any (·.1) = false := by rfl)
    (he : eval (.Call (.Name x p) (e :: rest) [] pos) env = (do callWith pos (← eval (.Name x p) env) [] (backTo pos (starEach (e :: rest) env)) (backToKw pos (keywordEach [] env))) := by rfl) :
    EvOk h₀ prog w n env (.Call (.Name x p) (e :: rest) [] pos) (fun σ Q => F σ fun ps H₁ => ps.length = names.length ∧ callW names Fb ps H₁ Q) :=
  ev_call (W := fun ps H₁ Q => ps.length = names.length ∧ callW names Fb ps H₁ Q) (nm_glob G hn hx hg hd) (kpr_K G hf.1) hes (fun loc Z H s ps vs S v A Q Q' E rm f' q => hf.2 h₀ prog env G loc Z H s ps vs S v A Q Q' E (rm.le hkn) f' q) hs hp he
theorem bind2 {s : Shared} {fd : FuncData} {x y : Str} (h : ∀ a b, bindArgs fd ⟨[a, b], []⟩ = pure [(x, a), (y, b)]) : ∀ vs : List Value, vs.length = 2 → BindsTo s fd ⟨vs, []⟩ ([x, y].zip vs)
  | [a, b], _ => BindsTo.of_eq (h a b)
theorem bind1 {s : Shared} {fd : FuncData} {x : Str} (h : ∀ a, bindArgs fd ⟨[a], []⟩ = pure [(x, a)]) : ∀ vs : List Value, vs.length = 1 → BindsTo s fd ⟨vs, []⟩ ([x].zip vs)
  | [a], _ => BindsTo.of_eq (h a)
theorem bind3 {s : Shared} {fd : FuncData} {x y z : Str} (h : ∀ a b c, bindArgs fd ⟨[a, b, c], []⟩ = pure [(x, a), (y, b), (z, c)]) : ∀ vs : List Value, vs.length = 3 → BindsTo s fd ⟨vs, []⟩ ([x, y, z].zip vs)
  | [a, b, c], _ => BindsTo.of_eq (h a b c)
theorem bind4 {s : Shared} {fd : FuncData} {x y z u : Str} (h : ∀ a b c d, bindArgs fd ⟨[a, b, c, d], []⟩ = pure [(x, a), (y, b), (z, c), (u, d)]) : ∀ vs : List Value, vs.length = 4 → BindsTo s fd ⟨vs, []⟩ ([x, y, z, u].zip vs)
  | [a, b, c, d], _ => BindsTo.of_eq (h a b c d)
end Mine
end
section
namespace Mine
theorem forW_inv {fa : PV → St → (St → Prop) → Prop} {fb : XT} {Q : Fl → St → Prop} (I : List PV → St → Prop)
    (step : ∀ p r σ (K : Fl → St → Prop), I (p :: r) σ → (∀ σ', I r σ' → K .next σ') → (∀ σ', I r σ' → K .cont σ') → fa p σ fun σ₁ => fb σ₁ K)
    (fin : ∀ σ, I [] σ → Q .next σ) : ∀ xs σ, I xs σ → forW fa fb xs σ Q
  | [], σ, h => fin σ h
  | p :: r, σ, h => step p r σ _ h (fun σ' h' => forW_inv I step fin r σ' h') (fun σ' h' => forW_inv I step fin r σ' h')
theorem whileW_inv' {ft : BT} {fb : XT} {Q : Fl → St → Prop} (I : Nat → St → Prop)
    (step : ∀ k σ (K : Fl → St → Prop), I k σ → (∀ k' σ', k' < k → I k' σ' → K .next σ') → (∀ k' σ', k' < k → I k' σ' → K .cont σ') → ft σ fun c H₁ => if c then fb ⟨σ.loc, H₁⟩ K else Q .next ⟨σ.loc, H₁⟩) :
    ∀ n k σ, k < n → I k σ → whileW ft fb n σ (fun fl σ => Q fl σ)
  | 0, k, σ, hk, h => absurd hk (Nat.not_lt_zero k)
  | n + 1, k, σ, hk, h => step k σ _ h (fun k' σ' hk' h' => whileW_inv' I step n k' σ' (by (first | lia | omega)) h') (fun k' σ' hk' h' => whileW_inv' I step n k' σ' (by (first | lia | omega)) h')
theorem whileW_inv {ft : BT} {fb : XT} {Q : Fl → St → Prop} (I : Nat → St → Prop)
    (step : ∀ k σ (K : Fl → St → Prop), I k σ → (∀ k' σ', k' < k → I k' σ' → K .next σ') → (∀ k' σ', k' < k → I k' σ' → K .cont σ') → ft σ fun c H₁ => if c then fb ⟨σ.loc, H₁⟩ K else Q .next ⟨σ.loc, H₁⟩)
    (k : Nat) (σ : St) (h : I k σ) : ∃ n, whileW ft fb n σ Q := ⟨k + 1, whileW_inv' I step (k + 1) k σ (Nat.lt_succ_self k) h⟩
theorem compW_eval {fa : PV → St → (St → Prop) → Prop} {ft : BT} {fe : ET} {cap : Loc} (t : PV → Bool) (g : PV → PV) {H : LH} {Q : List PV → LH → Prop} : ∀ (xs acc : List PV),
    (∀ p ∈ xs, ∀ (R1 : PV → LH → Prop) (R2 : LH → Prop), (if t p then R1 (g p) H else R2 H) → fa p ⟨cap, H⟩ fun σ => ft σ fun c H₁ => if c then fe ⟨σ.loc, H₁⟩ R1 else R2 H₁) →
    Q (acc ++ (xs.filter t).map g) H → compW fa ft fe cap xs acc H Q
  | [], acc, _, h => by simpa [compW] using h
  | p :: r, acc, step, h => by
    unfold compW
    refine step p List.mem_cons_self _ _ ?_
    have ih := fun acc' => compW_eval (fa := fa) (ft := ft) (fe := fe) (cap := cap) t g (H := H) (Q := Q) r acc' fun p' hp' => step p' (List.mem_cons_of_mem _ hp')
    cases hp : t p with
    | true =>
      rw [if_pos rfl]
      refine ih _ ?_
      simpa [List.filter_cons, hp] using h
    | false =>
      rw [if_neg (by decide)]
      refine ih _ ?_
      simpa [List.filter_cons, hp] using h
/-- a comprehension without a test -/
theorem compW_map {fa : PV → St → (St → Prop) → Prop} {fe : ET} {cap : Loc} (g : PV → PV) {H : LH} {Q : List PV → LH → Prop} (xs : List PV)
    (step : ∀ p ∈ xs, ∀ (R1 : PV → LH → Prop), R1 (g p) H → fa p ⟨cap, H⟩ fun σ => fe ⟨σ.loc, σ.H⟩ R1)
    (h : Q (xs.map g) H) : compW fa (fun σ Q => Q true σ.H) fe cap xs [] H Q := by
  refine compW_eval (fun _ => true) g xs [] (fun p hp R1 R2 hr => ?_) (by rw [List.filter_eq_self.mpr (fun _ _ => rfl)]; simpa using h)
  rw [if_pos rfl] at hr
  simpa using step p hp R1 hr
noncomputable def mkS (l : List Nat) : Str := ⟨l.toArray⟩
theorem mkS_len (l : List Nat) : (mkS l).length = l.length := by simp [mkS, Str.length]
theorem mkS_append (a b : List Nat) : mkS a ++ mkS b = mkS (a ++ b) := Str.ext' (by rw [Str.cps_append]; simp [mkS])
theorem mkS_inj {a b : List Nat} (h : mkS a = mkS b) : a = b := by
  have := congrArg (fun s => s.cps.toList) h
  simpa [mkS] using this
theorem mkS_beq (a b : List Nat) : (mkS a == mkS b) = (a == b) := by
  rw [Bool.eq_iff_iff, beq_iff_eq, beq_iff_eq]
  exact ⟨mkS_inj, fun h => by rw [h]⟩
theorem scut_mk (l : List Nat) (lo hi : Option Int) : scut (mkS l) lo hi = mkS (cut l lo hi) := by simp [scut, mkS]
theorem mul_ok (l : List Nat) (k : Nat) (h1 : k ≤ 1000000) (h2 : l.length * k ≤ 1000000) : MulOk (mkS l) (k : Int) := by
  refine ⟨by rw [Bool.or_eq_false_iff, decide_eq_false_iff_not, decide_eq_false_iff_not]; (first | lia | omega), fun hk _ => ?_, fun hk _ => ?_⟩
  · rw [mkS_len]
    have : (l.length : Int) ≤ (2 ^ 63 - 1) / (k : Int) := by
      rw [Int.le_ediv_iff_mul_le (by (first | lia | omega))]
      have h3 : ((l.length * k : Nat) : Int) ≤ ((1000000 : Nat) : Int) := Int.ofNat_le.mpr h2
      rw [Int.natCast_mul] at h3
      (first | lia | omega)
    (first | lia | omega)
  · rw [mkS_len, Int.toNat_natCast]
    unfold Builtin.Str.tooLong
    rw [sizeLine_eq, decide_eq_false_iff_not]
    (first | lia | omega)
end Mine
end
section
namespace Mine
section
variable {K : Frag} {h₀ : Heap} {prog : Program} {w : World} {n : Nat} {env : Env}
/-- a list that may be changed is changed -/
theorem Sk.setList {loc : Loc} {Z : Zm} {H : LH} {s : Shared} {h' : Heap} {tk : Nat} {l : Addr} {xs ys : List PV} {vs : List Value} {k : Nat} (S : Sat h₀ Z env loc H s.heap) (hl : H l = some ⟨true, xs⟩)
    (hs : Heap.SameBut l s.heap h') (ho : h'.get? l = some { cls := .type "list", data := .seq vs.toArray k }) (hv : VRs Z ys vs) : Sk h₀ env loc Z H s loc Z (H.set l ⟨true, ys⟩) { s with heap := h', toks := tk } := by
  obtain ⟨zl, ws, kk, eo, _⟩ := S.obj l _ hl
  have hL : env.locals ≠ l := fun h => by
    obtain ⟨m, ⟨o', es, ep, e', d', _⟩, _⟩ := S.ns
    rw [h, eo] at e'; cases e'; cases d'
  have hC : ∀ m c, (m, c) ∈ env.cells → c ≠ l := fun m c hm h => by
    obtain ⟨_, w', o, e, d⟩ := S.cellZ m c hm
    rw [h, eo] at e; cases e; cases d
  have ks : ∀ b o, b ≠ l → s.heap.get? b = some o → h'.get? b = some o := fun b o hb e => hs.extBut b o hb e
  refine ⟨⟨S.base, fun a o e => ks a o (fun h => by rw [h, zl] at e; cases e) (S.frz a o e), S.nsZ, ?_, S.cellN, S.kind, ?_, fun a l' e => ?_⟩, ⟨h', tk, rfl⟩, fun b o e _ _ h3 => ks b o (fun h => h3 xs (by rw [h]; exact hl)) e, fun b o e => ?_, Fresh.refl s Z, fun a l' e => ?_⟩
  · intro m x hm
    obtain ⟨z, w', o, e, d⟩ := S.cellZ m x hm
    exact ⟨z, w', o, ks x o (hC m x hm) e, d⟩
  · obtain ⟨m, hm, hl'⟩ := S.ns
    refine ⟨m, hm.at' fun o e => ks _ o hL e, fun y p e => ?_⟩
    cases hl' y p e with
    | loc v a b c => exact .loc v a b c
    | cell x v a b d g =>
      obtain ⟨o, eo', d'⟩ := d
      exact .cell x v a b ⟨o, ks x o (hC _ x (mem_of_lookup b)) eo', d'⟩ g
  · by_cases ha : a = l
    · subst ha
      rw [LH.set_self] at e; cases e
      exact ⟨zl, vs, k, ho, hv⟩
    · rw [LH.set_ne _ _ ha] at e
      obtain ⟨z, us, k', e', r⟩ := S.obj a l' e
      exact ⟨z, us, k', ks a _ ha e', r⟩
  · by_cases hb : b = l
    · rw [hb]; exact ⟨_, ho⟩
    · exact ⟨o, ks b o hb e⟩
  · by_cases ha : a = l
    · subst ha
      exact .inl ⟨_, hl, fun _ => rfl⟩
    · rw [LH.set_ne _ _ ha] at e
      exact .inl ⟨l', e, fun h => h⟩
theorem st_append {o e : Expr} {apos p pos : Pos} {fo fe : ET} {pl : Sem Bool} (ho : EvOk h₀ prog w n env o fo) (he : EvOk h₀ prog w n env e fe)
    (hm : eval (.Call (.Attribute o (Str.ofString "append") apos) [e] [] p) env = (do
      let ov ← eval o env
      standAt apos.atName
      let (f, first) ← holding [ov] (getMethod ov (Str.ofString "append") pl)
      callWith p f first (backTo p (starEach [e] env)) []) := by rfl)
    (hs : starEach [e] env = (false, eval e env) :: starEach [] env := by rfl) (hi : interactive env = false := by rfl) (hw : swapsWith (.Call (.Attribute o (Str.ofString "append") apos) [e] [] p) none pos.line env = pure false := by rfl) :
    ExOk h₀ prog w n env (.Expr (.Call (.Attribute o (Str.ofString "append") apos) [e] [] p) pos)
      (fun σ Q => fo σ fun a H₁ => ∃ l z, a = .ref l ∧ H₁ l = some z ∧ fe ⟨σ.loc, H₁⟩ fun b H₂ => ∃ xs, H₂ l = some ⟨true, xs⟩ ∧ xs.length ≤ sizeLine ∧ Q .next ⟨σ.loc, H₂.set l ⟨true, xs ++ [b]⟩⟩) := by
  intro A Z loc H s Q Q' E rm S f q
  refine wpAny_Expr (MethodCall_ (pl := pl) (ho A Z loc H s _ _ _ rm S f fun x a Z₁ H₁ s₁ k₁ va f₁ => ?_) hm) hi hw
  obtain ⟨l, z, rfl, hz, f₁⟩ := f₁
  cases va with
  | ref _ =>
    obtain ⟨_, vs, k, eo, _⟩ := k₁.sat.obj l z hz
    refine getMethod_builtin ⟨_, eo, rfl⟩ PySem.F.plainAttrs_list PySem.F.slot_list_append PySem.F.type_list_append (fun a e => by cases e; exact ⟨_, eo, rfl⟩) ?_
    have hes : EsOk h₀ prog w n env [e] (fun σ Q => fe σ fun a H₁ => Q [a] H₁) := by
      intro A Z loc H s pos Q Q' E rm S f q
      exact (es_cons (fr := fun σ Q => Q [] σ.H) he es_nil hs) A Z loc H s pos Q Q' E rm S f q
    refine callWith_ok (Q := fun ps H₂ => match ps with | [b] => ∃ xs, H₂ l = some ⟨true, xs⟩ ∧ xs.length ≤ sizeLine ∧ Q .next ⟨loc, H₂.set l ⟨true, xs ++ [b]⟩⟩ | _ => False) (kpr_builtin _) hes rm k₁.sat f₁ (fun us ps Z₂ H₂ s₂ k₂ vu f₂ => ?_) hs rfl
    cases vu with
    | nil => exact f₂.elim
    | cons vb r =>
      cases r with
      | cons _ _ => exact f₂.elim
      | nil =>
      obtain ⟨xs, hx, hsz, f₂⟩ := f₂
      obtain ⟨z₂, ws, k', eo₂, rr⟩ := k₂.sat.obj l _ hx
      refine wpAny_list_append_plain (items := ws.toArray) ⟨k', eo₂⟩ (fun h' hl' hs' => ?_) (by rw [List.size_toArray, rr.length]; exact hsz)
      obtain ⟨k'', e''⟩ := hl'
      have K := Sk.setList (tk := s₂.toks) k₂.sat hx hs' (vs := ws ++ [_]) (k := k'') (by rw [e'']; simp) (rr.append (.cons vb .nil))
      exact q _ _ _ _ _ _ ((k₁.trans k₂).sk.trans K) .next f₂
end
end Mine
end
section
namespace Mine
section
variable {K : Frag} {prog : Program} {w : World} {A : Around}
/-- a def without cells is entered, arguments as they come -/
theorem enter_raw {s : Shared} {R : Result → Shared → Prop} {name qual : Str} {params : Arguments} {body : List Stmt} {scope : Scope} {dV kV doc pm cdv ct oc : Value} {an od : Option Addr} {osl : Array (Option Value)} {f : Addr} {args : Args} {binds : List (Str × Value)}
    (X : K.In s.heap) (NL : s.heap.NoLimit) (ho : K.lookup f = some ⟨oc, od, .func (fnOf name qual params body scope dV kV doc pm an cdv ct), osl⟩) (hcd : codeIn K cdv qual = true)
    (hco : scope.isCoroutine = false) (hgen : scope.isGenerator = false) (hk : scope.kind = .function)
    (hbind : BindsTo s (fnOf name qual params body scope dV kV doc pm an cdv ct) args binds) (hcell : ∀ x ∈ scope.names, x.2 ≠ .cell) (hloc : ∀ x ∈ binds, scope.names.lookup x.1 = some .local)
    (hroom : A.depth < recursionLimit)
    (h : ∀ h₁, h₁.Ns s.heap.objs.size (fun x => binds.reverse.lookup x) → (∀ b o, s.heap.get? b = some o → h₁.get? b = some o) →
      wpAny (model prog w) (A.deeper (envOf qual scope s.heap.objs.size f cdv)) (execs body (envOf qual scope s.heap.objs.size f cdv)) (fun fl s' => R (.ok (.ret (match fl with | .ret v => v | _ => .none))) s')
        (fun e s' => wpAny (model prog w) (A.deeper (envOf qual scope s.heap.objs.size f cdv)) (leaving (envOf qual scope s.heap.objs.size f cdv) e) (fun _ s'' => R (.error e) s'') (fun e' s'' => R (.error e') s'') s')
        { s with heap := h₁, toks := s.toks + binds.length }) :
    codeAny (model prog w) A (.call (.ref f) args) R s :=
  codeAny_call_def hroom (X _ _ ho) rfl NL (codeRec_of X hcd) rfl hbind hcell hloc h hco hgen hk
/-- an attribute of a new instance is set from a name -/
theorem init_store {E : Value → Shared → Prop} {Q : Flow → Shared → Prop} {env : Env} {s : Shared} {g : Heap} {m : Str → Option Value} {x C dx : Addr} {es : List DictEntry} {n : Nat} {y z name : Str} {py pz pa pos : Pos} {v : Value} {rest : List Stmt}
    (F : Fr g env.locals s.heap m) (X₀ : K.In g) (N : News g env.locals s.heap [(x, instObj C dx), (dx, dictOf es n)]) (hne : x ≠ dx)
    (hk : env.scope.kind = .function) (hyl : env.kindOf y = some .local) (hym : m y = some v) (hyd : (y == ("__debug__" : Str)) = false) (hzl : env.kindOf z = some .local) (hzm : m z = some (.ref x)) (hzd : (z == ("__debug__" : Str)) = false)
    (hs : findIn K (.ref C) "__setattr__" = some (some (.builtin "object.__setattr__"))) (hp : plainOver K C = true) (ht : takerIn K C name = some none) (hh : hasDictIn K C = true) (hl : (getL name es).isSome = true)
    (e : ∀ hsh t, (putL name hsh (.str name t) v es, putN name es n) = (es ++ [⟨hsh, .str name t, v⟩], n + 1)) (hlen : es.length ≤ 900)
    (h : ∀ h' hsh t tk, Fr g env.locals h' m → News g env.locals h' [(x, instObj C dx), (dx, dictOf (es ++ [⟨hsh, .str name t, v⟩]) (n + 1))] → wpAny (model prog w) A (execs rest env) Q E { s with heap := h', toks := tk })
    (hsw : swapsWith (.Name y py) (some (.Attribute (.Name z pz) name pa)) pos.line env = pure false) :
    wpAny (model prog w) A (execs (.Assign [.Attribute (.Name z pz) name pa] (.Name y py) pos :: rest) env) Q E s := by
  refine wpAny_execs_cons (plainObj_wpAny_Assign_Attribute (wpAny_Name (wpAny_loadName_local hk hyl F.ns hym (wpAny_Name (wpAny_loadName_local hk hzl F.ns hzm ?_) hzd)) hyd) hsw)
  refine set_dict (m := m) (news := [(x, instObj C dx), (dx, dictOf es n)]) F X₀ N (InstAt.of_news N (.head _) (.tail _ (.head _))) rfl hs hp ht hh hl (e _ _) (.tail hne (.head (fun _ h => nomatch h))) (by simp; (first | lia | omega)) fun h' F' N' => ?_
  exact h h' _ _ _ F' N'
end
end Mine
end
section
namespace Mine
theorem Gr.keeps {K : Frag} {h₀ h : Heap} (G : Gr K h₀) (hk : ∀ b o, h₀.get? b = some o → h.get? b = some o) : Gr K h where
  X := G.X.keeps hk
  g := let ⟨mg, hg⟩ := G.g; ⟨mg, hg.keeps hk⟩
  b := let ⟨mb, hb, hx⟩ := G.b; ⟨mb, hb.keeps hk, hx⟩
  nl := G.nl.keeps hk
section
variable {h₀ : Heap} {prog : Program} {w : World} {n : Nat} {env : Env}
theorem VR.objInv {Z : Zm} {C : Addr} {fs : List (String × PV)} {v : Value} (h : VR Z (.obj C fs) v) : ∃ x dx es k, v = .ref x ∧ Z x = some (instObj C dx) ∧ Z dx = some (dictOf es k) ∧ FRs Z fs es := by
  cases h with
  | obj a b c => exact ⟨_, _, _, _, rfl, a, b, c⟩
end
end Mine
end
section
namespace Mine
section
variable {h₀ : Heap} {prog : Program} {w : World} {env : Env} {p : Program} {loose : List Str} {mean : ExcName → Option Value} {mg mb : Str → Option Value}
end
end Mine
end
section
namespace Mine
section
variable {h₀ : Heap} {env : Env}
end
end Mine
end
section
namespace Mine
theorem execs_app (env : Env) (rest : List Stmt) : ∀ pre : List Stmt, execs (pre ++ rest) env = (do match ← execs pre env with | .next => execs rest env | f => pure f)
  | [] => by
    show execs rest env = (do match ← (pure Flow.next : Sem Flow) with | .next => execs rest env | f => pure f)
    rw [pure_bind]
  | st :: pre => by
    show execs (st :: (pre ++ rest)) env = _
    rw [execs_cons, execs_cons, bind_assoc]
    congr 1
    funext f
    cases f with
    | next => exact execs_app env rest pre
    | _ => simp
section
variable {h₀ : Heap} {env : Env}
theorem xs_app {prog : Program} {w : World} {n : Nat} {pre rest : List Stmt} {F : XT} {A : Around} {Z : Zm} {loc : Loc} {H : LH} {s : Shared} {Q : Fl → St → Prop} {Q' : Flow → Shared → Prop} {E : Value → Shared → Prop} (h : XsOk h₀ prog w n env pre F) (rm : Rm n A) (S : Sat h₀ Z env loc H s.heap) (f : F ⟨loc, H⟩ Q)
    (q : ∀ fl p loc' Z' H' s', Sk h₀ env loc Z H s loc' Z' H' s' → FlR Z' p fl → Q p ⟨loc', H'⟩ → match fl with | .next => wpAny (model prog w) A (execs rest env) Q' E s' | fl => Q' fl s') : wpAny (model prog w) A (execs (pre ++ rest) env) Q' E s := by
  rw [execs_app]
  refine wpAny_bind (h A Z loc H s Q _ E rm S f fun fl p loc' Z' H' s' k v f' => ?_)
  have := q fl p loc' Z' H' s' k v f'
  cases fl <;> first | exact this | exact wpAny_pure this
theorem VRs.ints {Z : Zm} : ∀ {vs : List Value} {ws : List Int}, IntsAre vs ws → VRs Z (ws.map .int) vs
  | _, _, .nil => .nil
  | _, _, .cons n t r => .cons (.int n t) (VRs.ints r)
theorem ints_of_well {P : Params} {h : Heap} : ∀ {ws : List Int} {vs : List Value}, WellAll P h vs (ofPys (ws.map PyData.int)) → IntsAre vs ws
  | [], _, x => by cases x; exact .nil
  | n :: ws, _, x => by
    cases x with
    | cons a r =>
      cases a with
      | int _ t => exact .cons n t (ints_of_well r)
noncomputable def startLoc (ws : List Int) : Loc := fun y => if y = "script" then some (.lst (ws.map .int)) else none
theorem start_ok {g h₁ : Heap} {m : Str → Option Value} {a : Addr} {vs : List Value} {ws : List Int} {k : Nat} (F : Fr g env.locals h₁ m) (hk : env.scope.kind = .function) (hc : ∀ n c, (n, c) ∈ env.cells → g.get? c = none ∧ ∃ w, h₁.IsCell c w) (hn : (env.cells.map (·.2)).Nodup)
    (hl : env.kindOf (Str.ofString "script") = some .local) (hm : m (Str.ofString "script") = some (.ref a)) (ha : g.get? a = some { cls := .type "list", data := .seq vs.toArray k }) (hI : IntsAre vs ws) :
    Sat g (fun a => g.get? a) env (startLoc ws) (fun _ => none) h₁ where
  base := fun _ _ e => e
  frz := F.keep
  nsZ := Heap.get?_none_of_le F.above
  cellZ := hc
  cellN := hn
  kind := hk
  ns := ⟨m, F.ns, fun x p e => by
    unfold startLoc at e
    by_cases hx : x = "script"
    · subst hx
      rw [if_pos rfl] at e; cases e
      exact .loc _ hl hm (.lst ha (VRs.ints hI))
    · rw [if_neg hx] at e; cases e⟩
  obj := fun _ _ e => by cases e
end
end Mine
end
section
namespace Mine
section
variable {H : LH} {Q : PV → LH → Prop} {i j : Int} {xs ys : List PV} {x y : Str} {a b : Addr} {l l' : LO} {p : PV}
theorem bin_addI (h : Q (.int (i + j)) H) : binW .Add (.int i) (.int j) H Q := h
theorem bin_subI (h : Q (.int (i - j)) H) : binW .Sub (.int i) (.int j) H Q := h
theorem bin_mulI (h0 : IntMulOk i j) (h : Q (.int (i * j)) H) : binW .Mult (.int i) (.int j) H Q := ⟨h0, h⟩
theorem bin_modI (h0 : j ≠ 0) (h : Q (.int (i.fmod j)) H) : binW .Mod (.int i) (.int j) H Q := ⟨h0, h⟩
theorem bin_divI (h0 : j ≠ 0) (h1 : j.natAbs < 1073741824) (h : Q (.int (i.fdiv j)) H) : binW .FloorDiv (.int i) (.int j) H Q := ⟨⟨h0, h1⟩, h⟩
theorem bin_addS (h0 : x.length + y.length ≤ sizeLine) (h : Q (.str (x ++ y)) H) : binW .Add (.str x) (.str y) H Q := ⟨h0, h⟩
theorem bin_addLL (h0 : xs.length + ys.length ≤ sizeLine) (h : listW (xs ++ ys) H Q) : binW .Add (.lst xs) (.lst ys) H Q := ⟨xs, ys, rfl, rfl, h0, h⟩
theorem lstOf_ref (h : H a = some l) : lstOf H (.ref a) = some l.xs := by simp [lstOf, h]
theorem in_addI (h : Q (.int (i + j)) H) : inW .Add (.int i) (.int j) H Q := h
theorem in_addS (h0 : x.length + y.length ≤ sizeLine) (h : Q (.str (x ++ y)) H) : inW .Add (.str x) (.str y) H Q := ⟨h0, h⟩
theorem seqIndex_nat {k n : Nat} (h : k < n) : seqIndex? (k : Int) n = some k := by
  unfold seqIndex?
  rw [if_neg (Int.not_lt.mpr (Int.natCast_nonneg k))]
  exact if_pos (by simpa using h)
theorem idx_L {k : Nat} (hp : xs[k]? = some p) (hb : xs.length < 2 ^ 62) (h : Q p H) : idxW (.lst xs) (.int (k : Int)) H Q := by
  have hk := (List.getElem?_eq_some_iff.mp hp).1
  exact ⟨by (first | lia | omega), xs, p, rfl, by rw [seqIndex_nat hk]; exact hp, h⟩
theorem len_L (hb : xs.length < 2 ^ 62) (h : Q (.int xs.length) H) : lenOp [.lst xs] H Q := ⟨_, rfl, xs, rfl, hb, h⟩
theorem len_R (ha : H a = some l) (hb : l.xs.length < 2 ^ 62) (h : Q (.int l.xs.length) H) : lenOp [.ref a] H Q := ⟨_, rfl, l.xs, lstOf_ref ha, hb, h⟩
theorem len_S (hb : x.length < 2 ^ 62) (h : Q (.int x.length) H) : lenOp [.str x] H Q := ⟨_, rfl, hb, h⟩
theorem cut_L {lo hi : Option Int} (hb : xs.length ≤ sizeLine) (h : listW (cut xs lo hi) H Q) : cutW (.lst xs) lo hi H Q := ⟨xs, rfl, hb, h⟩
theorem cut_S {lo hi : Option Int} (hb : x.length ≤ sizeLine) (h : Q (.str (scut x lo hi)) H) : cutW (.str x) lo hi H Q := ⟨hb, h⟩
theorem cmp_eqI {R : Bool → Prop} (h : R (i == j)) : cmpW .Eq (.int i) (.int j) H R := h
theorem cmp_ltI {R : Bool → Prop} (h : R (decide (i < j))) : cmpW .Lt (.int i) (.int j) H R := h
theorem cmp_leI {R : Bool → Prop} (h : R (decide (i ≤ j))) : cmpW .LtE (.int i) (.int j) H R := h
theorem cmp_eqS {R : Bool → Prop} (h : R (x == y)) : cmpW .Eq (.str x) (.str y) H R := h
theorem cmp_neS {R : Bool → Prop} (h : R (x != y)) : cmpW .NotEq (.str x) (.str y) H R := h
theorem get_W {o : Option PV} {k : PV → Prop} (e : o = some p) (h : k p) : getW o k := ⟨p, e, h⟩
end
section
variable {h₀ : Heap} {env : Env} {prog : Program} {w : World} {n : Nat}
theorem EvOk.use {e : Expr} {F : ET} {A : Around} {Z : Zm} {loc : Loc} {H : LH} {s : Shared} {Q : PV → LH → Prop} {Q' : Value → Shared → Prop} {E : Value → Shared → Prop} (h : EvOk h₀ prog w n env e F) (rm : Rm n A) (S : Sat h₀ Z env loc H s.heap) (f : F ⟨loc, H⟩ Q)
    (q : ∀ v p Z' H' s', Ke h₀ env loc Z H s Z' H' s' → VR Z' p v → Q p H' → Q' v s') : wpAny (model prog w) A (eval e env) Q' E s := h A Z loc H s Q Q' E rm S f q
end
end Mine
end
section
open PySem PySem.W PyProof.Rows PySem.Calls PySem.Builtin
namespace Mine
/-- the blanks for a tab at a column -/
noncomputable def xtB (size : Int) (col : Nat) : Nat := if size > 0 then size.toNat - col % size.toNat else 0
noncomputable def xtStep (size : Int) (s : Array Nat × Nat) (c : Nat) : Array Nat × Nat := if c = 9 then (s.1 ++ Array.replicate (xtB size s.2) 32, s.2 + xtB size s.2) else (s.1.push c, if c = 10 ∨ c = 13 then 0 else s.2 + 1)
noncomputable def xtTab (size : Int) (x : Str) : Str := ⟨(x.cps.toList.foldl (xtStep size) (#[], 0)).1⟩
end Mine
end
section
namespace Mine
section
variable {prog : Program} {w : World} {A : Around} {E : Value → Shared → Prop} {s : Shared} {env : Env} {Q : Value → Shared → Prop} {o : Expr} {apos pos p1 p2 : Pos} {k1 k2 : Nat}
end
end Mine
end
section
namespace Mine
section
variable {h₀ : Heap} {prog : Program} {w : World} {n : Nat} {env : Env}
/-- a method of a text's, with arguments -/
theorem ev_smeth {o : Expr} {name : Str} {apos pos : Pos} {e : Expr} {rest : List Expr} {id : String} {fo : ET} {F : EsT} {W : Str → List PV → LH → (PV → LH → Prop) → Prop} (pl : Sem Bool)
    (hget : ∀ (A : Around) (E : Value → Shared → Prop) (s : Shared) (x : Str) (t : Tok) (Q : Value × List Value → Shared → Prop), Q (.builtin id, [.str x t]) s → wpAny (model prog w) A (getMethod (.str x t) name pl) Q E s)
    (hop : ∀ (loc : Loc) (Z : Zm) (H : LH) (s : Shared) (x : Str) (t : Tok) (ps : List PV) (vs : List Value), Sat h₀ Z env loc H s.heap → VRs Z ps vs → OpOk h₀ prog w n env loc Z H s (call (.builtin id) (.str x t :: vs)) (W x ps H))
    (ho : EvOk h₀ prog w n env o fo) (hes : EsOk h₀ prog w n env (e :: rest) F)
    (he : eval (.Call (.Attribute o name apos) (e :: rest) [] pos) env = (do
      let ov ← eval o env
      standAt apos.atName
      let (f, first) ← holding [ov] (getMethod ov name pl)
      callWith pos f first (backTo pos (starEach (e :: rest) env)) []))
    (hs : starEach (e :: rest) env = (false, eval e env) :: starEach rest env) (hp : (backTo pos (starEach rest env)).any (·.1) = false) :
    EvOk h₀ prog w n env (.Call (.Attribute o name apos) (e :: rest) [] pos) (fun σ Q => fo σ fun a H₁ => ∃ x, a = .str x ∧ F ⟨σ.loc, H₁⟩ fun ps H₂ => W x ps H₂ Q) := by
  intro A Z loc H s Q Q' E rm S f q
  refine MethodCall_ (pl := pl) (ho A Z loc H s _ _ _ rm S f fun v a Z₁ H₁ s₁ k₁ va f₁ => ?_) he
  obtain ⟨x, rfl, f₁⟩ := f₁
  cases va with
  | str _ t =>
    refine hget A _ s₁ x t _ ?_
    refine callWith_ok (first := [.str x t]) (kpr_builtin id) hes rm k₁.sat f₁ (fun vs ps Z' H' s' k v f' => ?_) hs hp
    exact hop loc Z' H' s' x t ps vs k.sat v A Q Q' E rm f' fun _ _ _ _ _ k' v' f'' => q _ _ _ _ _ (k₁.trans (k.trans k')) v' f''
noncomputable def countW (x : Str) (ps : List PV) (H : LH) (Q : PV → LH → Prop) : Prop := ∃ y, ps = [.str y] ∧ Q (.int (Txt.count x y)) H
theorem count_ok (loc : Loc) (Z : Zm) (H : LH) (s : Shared) (x : Str) (t : Tok) (ps : List PV) (vs : List Value) (S : Sat h₀ Z env loc H s.heap) (v : VRs Z ps vs) : OpOk h₀ prog w n env loc Z H s (call (.builtin "str.count") (.str x t :: vs)) (countW x ps H) := by
  rintro A Q Q' E rm ⟨y, rfl, f⟩ q
  cases v with
  | cons a r =>
    cases r
    cases a with
    | str _ u => exact SC.count (q _ _ _ _ _ (Ke.toks S _) (.int _ _) f)
noncomputable def splitW (x : Str) (ps : List PV) (H : LH) (Q : PV → LH → Prop) : Prop := ∃ y, ps = [.str y] ∧ (y.length == 0) = false ∧ x.length ≤ sizeLine ∧ (Builtin.Str.partsBetween x (Builtin.Str.occurrences x y 0 x.length (x.length + 1)) y.length).length ≤ sizeLine ∧ listW ((Txt.split x y).map .str) H Q
end
end Mine
end
section
namespace Mine
section
variable {h₀ : Heap} {prog : Program} {w : World} {n : Nat} {env : Env}
end
end Mine
end
section
namespace Mine
theorem FRs.get {Z : Zm} {f : String} {p : PV} : ∀ {fs : List (String × PV)} {es : List DictEntry}, FRs Z fs es → fs.lookup f = some p → ∃ v, getL (Str.ofString f) es = some (some v) ∧ VR Z p v ∧ handedIn v = true
  | _, _, .nil, h => by cases h
  | (g, x) :: fs, _, .cons (v := v) a b c, h => by
    rw [List.lookup_cons] at h
    by_cases e : f = g
    · subst e
      simp only [beq_self_eq_true] at h
      cases h
      refine ⟨v, ?_, a, b⟩
      unfold getL
      rw [List.find?_cons_of_pos (by simp [Value.isStr])]
    · have e' : (f == g) = false := by simpa using e
      rw [e'] at h
      obtain ⟨v', hv, r⟩ := FRs.get c h
      refine ⟨v', ?_, r⟩
      unfold getL at hv ⊢
      rw [List.find?_cons_of_neg (by simp [Value.isStr]; exact fun h => e (ofString_inj h.symm))]
      split at hv
      · exact hv
      · split at hv
        · cases hv
        · cases hv
theorem FRs.not {Z : Zm} {f : String} : ∀ {fs : List (String × PV)} {es : List DictEntry}, FRs Z fs es → fs.lookup f = none → getL (Str.ofString f) es = some none
  | _, _, .nil, h => rfl
  | (g, x) :: fs, _, .cons (v := v) a b c, h => by
    rw [List.lookup_cons] at h
    by_cases e : f = g
    · subst e
      simp only [beq_self_eq_true] at h
      cases h
    · have e' : (f == g) = false := by simpa using e
      rw [e'] at h
      have hv := FRs.not c h
      unfold getL at hv ⊢
      rw [List.find?_cons_of_neg (by simp [Value.isStr]; exact fun h => e (ofString_inj h.symm))]
      split at hv
      · cases hv
      · split at hv
        · cases hv
        · rename_i h2
          exact if_neg h2
section
variable {K : Frag} {h₀ : Heap} {prog : Program} {w : World} {n : Nat} {env : Env}
/-- x.f, x a name, f an own attribute of an instance of C -/
theorem ev_attr {C : Addr} {x f : String} {np pos : Pos} {attr : Option Value} (G : Gr K h₀) (hd : (Str.ofString x == ("__debug__" : Str)) = false) (hn : (Str.ofString x == ("__classdict__" : Str)) = false)
    (hg : plainGet K C (Str.ofString f) = true) (hh : hasDictIn K C = true) (ha : findIn K (.ref C) (Str.ofString f) = some attr) (hng : noGet K attr = true) :
    EvOk h₀ prog w n env (.Attribute (.Name (Str.ofString x) np) (Str.ofString f) pos) (fun σ Q => getW (σ.loc x) fun a => ∃ fs p, a = .obj C fs ∧ fs.lookup f = some p ∧ Q p σ.H) := by
  intro A Z loc H s Q Q' E rm S fq q
  obtain ⟨p, e, fs, p', rfl, hp, fq⟩ := fq
  refine Attribute_name (wpAny_Name (load_ok S e (fun v hv => ?_) hn) hd)
  obtain ⟨y, dx, es, kk, rfl, zx, zdx, fr⟩ := hv.objInv
  obtain ⟨v, hl, vr, hv⟩ := fr.get hp
  have I : InstAt s.heap y (instObj C dx) C (some (dictOf es kk)) := ⟨S.frz _ _ zx, rfl, rfl, S.frz _ _ zdx⟩
  exact get_value (G.X.keeps S.keep) I (plainGet_of hg).1 (findObj_own hh ha hng hl) hv (q _ _ _ _ _ (Ke.toks S _) vr fq)
/-- an operation that may change lists -/
noncomputable def MOp (h₀ : Heap) (prog : Program) (w : World) (n : Nat) (env : Env) (loc : Loc) (Z : Zm) (H : LH) (s : Shared) (t : Sem Value) (W : (PV → LH → Prop) → Prop) : Prop :=
  ∀ (A : Around) (Q : PV → LH → Prop) (Q' : Value → Shared → Prop) (E : Value → Shared → Prop), Rm n A → W Q →
    (∀ v p Z' H' s', Sk h₀ env loc Z H s loc Z' H' s' → VR Z' p v → Q p H' → Q' v s') → wpAny (model prog w) A t Q' E s
theorem Sk.of_callee {Z Z' : Zm} {env' : Env} {loc loc' loc'' : Loc} {H H' : LH} {s s₁ s₂ : Shared} (S : Sat h₀ Z env loc H s.heap) (hkp : Kp s s₁) (Kc : Sk h₀ env' loc' Z H s₁ loc'' Z' H' s₂)
    (hL : s.heap.get? env'.locals = none) (hC : ∀ n c, (n, c) ∈ env'.cells → s.heap.get? c = none) : Sk h₀ env loc Z H s loc Z' H' s₂ := by
  have hall : ∀ b o, s.heap.get? b = some o → (∀ xs, H b ≠ some ⟨true, xs⟩) → s₂.heap.get? b = some o := fun b o e h => by
    refine Kc.frm b o (hkp.get e) ?_ ?_ h
    · intro h; rw [h, hL] at e; cases e
    · intro m hm; rw [hC m b hm] at e; cases e
  have noH : ∀ b o, s.heap.get? b = some o → (∀ vs k, o ≠ { cls := .type "list", data := .seq vs k }) → H b = none := fun b o e h => by
    cases q : H b with
    | none => rfl
    | some l => obtain ⟨_, vs, k, e', _⟩ := S.obj b l q; rw [e] at e'; cases e'; exact absurd rfl (h _ _)
  have hcell : ∀ m c, (m, c) ∈ env.cells → ∀ o, s.heap.get? c = some o → s₂.heap.get? c = some o := fun m c hm o e => by
    obtain ⟨_, w', oc, ec, d⟩ := S.cellZ m c hm
    rw [e] at ec; cases ec
    refine hall c _ e fun xs hx => ?_
    rw [noH c _ e (fun vs k h => by rw [h] at d; cases d)] at hx; cases hx
  have hns : ∀ o, s.heap.get? env.locals = some o → s₂.heap.get? env.locals = some o := fun o e => by
    obtain ⟨m, ⟨o', es, ep, e', d', _⟩, _⟩ := S.ns
    rw [e] at e'; cases e'
    refine hall _ _ e fun xs hx => ?_
    rw [noH _ _ e (fun vs k h => by rw [h] at d'; cases d')] at hx; cases hx
  refine ⟨⟨Kc.sat.base, Kc.sat.frz, ?_, ?_, S.cellN, S.kind, ?_, Kc.sat.obj⟩, ?_, fun b o e _ _ h3 => hall b o e h3, ?_, ?_, ?_⟩
  · obtain ⟨o, e⟩ := S.nsAt
    exact Kc.noZ (hkp.get e) S.nsZ
  · intro m c hm
    obtain ⟨z, w', o, e, d⟩ := S.cellZ m c hm
    exact ⟨Kc.noZ (hkp.get e) z, w', o, hcell m c hm o e, d⟩
  · obtain ⟨m, hm, hl⟩ := S.ns
    refine ⟨m, hm.at' fun o e => hns o e, fun y p e => ?_⟩
    cases hl y p e with
    | loc v a b c => exact .loc v a b (c.mono Kc.fz.1)
    | cell x v a b d g =>
      obtain ⟨o, eo', d'⟩ := d
      exact .cell x v a b ⟨o, hcell _ x (mem_of_lookup b) o eo', d'⟩ (g.mono Kc.fz.1)
  · obtain ⟨h', tk, rfl, _⟩ := hkp
    obtain ⟨h'', tk', rfl⟩ := Kc.sh
    exact ⟨h'', tk', rfl⟩
  · exact fun b o e => Kc.live b o (hkp.get e)
  · exact ⟨Kc.fz.1, fun a h1 h2 => hkp.none (Kc.fz.2 a h1 h2)⟩
  · intro a l' e
    rcases Kc.fh a l' e with h | h
    · exact .inl h
    · exact .inr (hkp.none h)
/-- a call of a def that may change lists -/
theorem mfn_ok {name qual : Str} {params : Arguments} {body : List Stmt} {scope : Scope} {dV kV doc pm cdv ct oc : Value} {an od : Option Addr} {osl : Array (Option Value)} {f : Addr} {names : List String} {Fb : XT}
    (G : Gr K h₀) (ho : K.lookup f = some ⟨oc, od, .func (fnOf name qual params body scope dV kV doc pm an cdv ct), osl⟩) (hcd : codeIn K cdv qual = true)
    (hco : scope.isCoroutine = false) (hgen : scope.isGenerator = false) (hk : scope.kind = .function)
    (hbind : ∀ s vs, vs.length = names.length → BindsTo s (fnOf name qual params body scope dV kV doc pm an cdv ct) ⟨vs, []⟩ ((names.map Str.ofString).zip vs))
    (hkind : (names.all fun y => scope.names.lookup (Str.ofString y) == some .local || scope.names.lookup (Str.ofString y) == some .cell) = true) (hnn : names.Nodup) (hnd : ((cellsFrom 0 scope.names []).map (·.1)).Nodup)
    (hb : ∀ L', XsOk h₀ prog w n (envOfC qual scope L' f cdv) body Fb) :
    ∀ loc Z H s ps vs, Sat h₀ Z env loc H s.heap → VRs Z ps vs → MOp h₀ prog w (n + 1) env loc Z H s (call (.ref f) vs) (fun Q => ps.length = names.length ∧ Fb ⟨argLoc names ps, H⟩ fun fl σ' => Q (flVal fl) σ'.H) := by
  intro loc Z H s ps vs S hv A Q Q' E rm f q
  obtain ⟨hlen, f⟩ := f
  refine wpAny_call (enter_ok H G ho hcd hco hgen hk (hbind s vs (by rw [hv.length]; exact hlen)) hkind hnn hnd (by have := rm.dp; (first | lia | omega)) S (fun a l e => ⟨l, e, rfl⟩) hv fun L' s₁ S₁ kp hL hC => ?_)
  refine hb L' (A.deeper _) Z (argLoc names ps) H s₁ _ _ _ (rm.deeper _) S₁ f fun fl p loc' Z' H' s₂ Kc vf f' => ?_
  have K := Sk.of_callee S kp Kc hL hC
  have hfl : VR Z' (flVal p) (flowVal fl) := vf.val
  change Q' (flowVal fl) s₂
  exact q _ _ _ _ _ K hfl f'
/-- a method that gives None, as a statement -/
theorem st_meth {C f : Addr} {o : Expr} {name : String} {apos p pos : Pos} {e : Expr} {rest : List Expr} {fo : ET} {F : EsT} {W : List PV → LH → (PV → LH → Prop) → Prop} {pl : Sem Bool} (G : Gr K h₀) (ho : EvOk h₀ prog w n env o fo) (hes : EsOk h₀ prog w n env (e :: rest) F)
    (hg : plainGet K C (Str.ofString name) = true) (hf : findIn K (.ref C) (Str.ofString name) = some (some (.ref f))) (ht : typeIn K (.ref f) = some (.type "function")) (hk : keepIn K (.ref f) = true)
    (hop : ∀ loc Z H s ps vs, Sat h₀ Z env loc H s.heap → VRs Z ps vs → MOp h₀ prog w n env loc Z H s (call (.ref f) vs) (W ps H))
    (hm : eval (.Call (.Attribute o (Str.ofString name) apos) (e :: rest) [] p) env = (do
      let ov ← eval o env
      standAt apos.atName
      let (f, first) ← holding [ov] (getMethod ov (Str.ofString name) pl)
      callWith p f first (backTo p (starEach (e :: rest) env)) []))
    (hs : starEach (e :: rest) env = (false, eval e env) :: starEach rest env) (hp : (backTo p (starEach rest env)).any (·.1) = false) (hi : interactive env = false) (hw : swapsWith (.Call (.Attribute o (Str.ofString name) apos) (e :: rest) [] p) none pos.line env = pure false) :
    ExOk h₀ prog w n env (.Expr (.Call (.Attribute o (Str.ofString name) apos) (e :: rest) [] p) pos)
      (fun σ Q => fo σ fun a H₁ => ∃ fs, a = .obj C fs ∧ fs.lookup name = none ∧ F ⟨σ.loc, H₁⟩ fun ps H₂ => W (a :: ps) H₂ fun r H₃ => r = .none ∧ Q .next ⟨σ.loc, H₃⟩) := by
  intro A Z loc H s Q Q' E rm S fq q
  refine wpAny_Expr (MethodCall_ (pl := pl) (ho A Z loc H s _ _ _ rm S fq fun x a Z₁ H₁ s₁ k₁ va f₁ => ?_) hm) hi hw
  obtain ⟨fs, rfl, hno, f₁⟩ := f₁
  obtain ⟨y, dx, es, kk, rfl, zx, zdx, fr⟩ := va.objInv
  have I : InstAt s₁.heap y (instObj C dx) C (some (dictOf es kk)) := ⟨k₁.sat.frz _ _ zx, rfl, rfl, k₁.sat.frz _ _ zdx⟩
  refine method_fn (f := f) (G.X.keeps k₁.sat.keep) I (plainGet_of hg).1 (plainGet_of hg).2 hf ht (by show (lookIn _ (dictOf es kk)).map _ = _; rw [lookIn_dict, fr.not hno]; rfl) ?_
  refine callWith_ok (first := [.ref y]) (kpr_K G hk) hes rm k₁.sat f₁ (fun vs ps Z₂ H₂ s₂ k₂ v f₂ => ?_) hs hp
  refine hop loc Z₂ H₂ s₂ (_ :: ps) (_ :: vs) k₂.sat (.cons (va.mono k₂.fz.1) v) A _ _ E rm f₂ fun v p Z₃ H₃ s₃ k₃ vr f₃ => ?_
  obtain ⟨rfl, f₃⟩ := f₃
  cases vr
  exact q _ _ _ _ _ _ ((k₁.trans k₂).sk.trans k₃) .next f₃
end
end Mine
end
section
namespace Mine
section
variable {h₀ : Heap} {prog : Program} {w : World} {n : Nat} {env : Env}
theorem VRs.two {Z : Zm} {p q : PV} {vs : List Value} (h : VRs Z [p, q] vs) : ∃ a b, vs = [a, b] ∧ VR Z p a ∧ VR Z q b := by
  cases h with
  | cons a r => cases r with | cons b r => cases r; exact ⟨_, _, rfl, a, b⟩
theorem Kp.ext {s : Shared} {h' : Heap} (he : Heap.ExtBut s.heap.objs.size s.heap h') : Kp s { s with heap := h' } :=
  ⟨h', s.toks, rfl, fun b o e => he b o (Nat.ne_of_lt (Heap.lt_size e)) e⟩
theorem as_tuple2 {t u : Expr} {k} {pos : Pos} {fa fb : PV → St → (St → Prop) → Prop} (ha : AsOk h₀ prog w env t fa) (hb : AsOk h₀ prog w env u fb)
    (h1 : (assignEach [t, u] env).map (·.2) = [assign t env, assign u env]) (h2 : (assignEach [t, u] env).findIdx? (·.1) = none) :
    AsOk h₀ prog w env (.Tuple [t, u] k pos) (fun p σ Q => ∃ a b, p = .tup [a, b] ∧ fa a σ fun σ₁ => fb b σ₁ Q) := by
  rintro A Z loc H s p v Q Q' E hh S hv ⟨a, b, rfl, f⟩ q
  cases hv with
  | tup z r =>
    cases r with
    | cons va r =>
      cases r with
      | cons vb r =>
        cases r
        have hl : (assignEach [t, u] env).length = 2 := by have := congrArg List.length h1; simpa using this
        refine wpAny_assign_Tuple hh ⟨_, S.frz _ _ z, rfl, _, rfl⟩ (by rw [hl]; rfl) h2 fun h' he => ?_
        rw [h1]
        have k := Ke.keep S (Kp.ext he)
        refine wpAny_assignInOrder_more (ha A Z loc H _ a _ _ _ _ hh k.sat va f fun loc₁ Z₁ H₁ s₁ k₁ f₁ => ?_)
        refine wpAny_assignInOrder_more (hb A Z₁ loc₁ H₁ _ b _ _ _ _ hh k₁.sat (vb.mono k₁.fz.1) f₁ fun loc₂ Z₂ H₂ s₂ k₂ f₂ => ?_)
        exact wpAny_assignInOrder_none (q _ _ _ _ (k.sk.trans (k₁.trans k₂)) f₂)
theorem as_tuple3 {t u x : Expr} {k} {pos : Pos} {fa fb fc : PV → St → (St → Prop) → Prop} (ha : AsOk h₀ prog w env t fa) (hb : AsOk h₀ prog w env u fb) (hc : AsOk h₀ prog w env x fc)
    (h1 : (assignEach [t, u, x] env).map (·.2) = [assign t env, assign u env, assign x env]) (h2 : (assignEach [t, u, x] env).findIdx? (·.1) = none) :
    AsOk h₀ prog w env (.Tuple [t, u, x] k pos) (fun p σ Q => ∃ a b c, p = .tup [a, b, c] ∧ fa a σ fun σ₁ => fb b σ₁ fun σ₂ => fc c σ₂ Q) := by
  rintro A Z loc H s p v Q Q' E hh S hv ⟨a, b, c, rfl, f⟩ q
  cases hv with
  | tup z r =>
    cases r with
    | cons va r =>
      cases r with
      | cons vb r =>
        cases r with
        | cons vc r =>
          cases r
          have hl : (assignEach [t, u, x] env).length = 3 := by have := congrArg List.length h1; simpa using this
          refine wpAny_assign_Tuple hh ⟨_, S.frz _ _ z, rfl, _, rfl⟩ (by rw [hl]; rfl) h2 fun h' he => ?_
          rw [h1]
          have k := Ke.keep S (Kp.ext he)
          refine wpAny_assignInOrder_more (ha A Z loc H _ a _ _ _ _ hh k.sat va f fun loc₁ Z₁ H₁ s₁ k₁ f₁ => ?_)
          refine wpAny_assignInOrder_more (hb A Z₁ loc₁ H₁ _ b _ _ _ _ hh k₁.sat (vb.mono k₁.fz.1) f₁ fun loc₂ Z₂ H₂ s₂ k₂ f₂ => ?_)
          refine wpAny_assignInOrder_more (hc A Z₂ loc₂ H₂ _ c _ _ _ _ hh k₂.sat ((vc.mono k₁.fz.1).mono k₂.fz.1) f₂ fun loc₃ Z₃ H₃ s₃ k₃ f₃ => ?_)
          exact wpAny_assignInOrder_none (q _ _ _ _ (k.sk.trans (k₁.trans (k₂.trans k₃))) f₃)
theorem st_assignT {elts : List Expr} {k} {tpos pos : Pos} {e : Expr} {fe : ET} {fa : PV → St → (St → Prop) → Prop} (he : EvOk h₀ prog w n env e fe) (ha : AsOk h₀ prog w env (.Tuple elts k tpos) fa)
    (hs : swapsWithSole [.Tuple elts k tpos] e pos.line env = pure false) (hw : swappedStores [.Tuple elts k tpos] e env = pure none) :
    ExOk h₀ prog w n env (.Assign [.Tuple elts k tpos] e pos) (fun σ Q => fe σ fun a H₁ => fa a ⟨σ.loc, H₁⟩ fun σ₁ => Q .next σ₁) := by
  intro A Z loc H s Q Q' E rm S f q
  refine Assign_Tuple (he A Z loc H s _ _ _ rm S f fun v a Z₁ H₁ s₁ k₁ va f₁ => ?_) hs hw
  exact ha A Z₁ loc H₁ s₁ a v _ _ _ rm.hd k₁.sat va f₁ fun loc₂ Z₂ H₂ s₂ k₂ f₂ => q _ _ _ _ _ _ (k₁.sk.trans k₂) .next f₂
theorem unpack_at {A : Around} {E : Value → Shared → Prop} {s : Shared} {t : Addr} {items : Array Value} {k : Nat} {Q : List Value → Shared → Prop} (hh : A.handled = none) (ht : IsTup s.heap t items) (hk : k = items.size)
    (hQ : ∀ h', Heap.ExtBut s.heap.objs.size s.heap h' → Q items.toList { s with heap := h' }) : wpAny (model prog w) A (unpackItems (.ref t) k none) Q E s := by
  subst hk
  exact unpackItems_tuple hh ht hQ
theorem st_swap2 {elts : List Expr} {k} {tpos pos : Pos} {x y : String} {e : Expr} {fe : ET} (he : EvOk h₀ prog w n env e fe)
    (hs : swapsWithSole [.Tuple elts k tpos] e pos.line env = pure false) (hw : swappedStores [.Tuple elts k tpos] e env = pure (some [Str.ofString x, Str.ofString y])) (hx : Stores env x) (hy : Stores env y) :
    ExOk h₀ prog w n env (.Assign [.Tuple elts k tpos] e pos) (fun σ Q => fe σ fun a H₁ => ∃ p q, a = .tup [p, q] ∧ Q .next ⟨(σ.loc.set y q).set x p, H₁⟩) := by
  intro A Z loc H s Q Q' E rm S f q
  refine Assign_Tuple_swapped (he A Z loc H s _ _ _ rm S f fun v a Z₁ H₁ s₁ k₁ va f₁ => ?_) hs hw
  obtain ⟨p, p', rfl, f₁⟩ := f₁
  cases va with
  | tup z r =>
        rename_i t0 vs0 n0
        obtain ⟨v1, v2, rfl, va, vb⟩ := r.two
        have hT : IsTup s₁.heap t0 #[v1, v2] := ⟨_, k₁.sat.frz _ _ z, rfl, _, rfl⟩
        refine unpack_at (k := 2) rm.hd hT rfl fun h' he => ?_
        have k := Ke.keep k₁.sat (Kp.ext he)
        refine wpAny_assignInOrder_more (wpAny_bindName (store_ok k.sat vb hy fun s₂ k₂ => ?_))
        refine wpAny_assignInOrder_more (wpAny_bindName (store_ok k₂.sat va hx fun s₃ k₃ => ?_))
        exact wpAny_assignInOrder_none (q _ _ _ _ _ _ ((k₁.trans k).sk.trans (k₂.trans k₃)) .next f₁)
end
end Mine
end
section
namespace Mine
section
variable {K : Frag} {h₀ : Heap} {prog : Program} {w : World} {n : Nat} {env : Env}
theorem ev_len {p pos : Pos} {e : Expr} {rest : List Expr} {F : EsT} (G : Gr K h₀) (h1 : nsIn K mainGlobals (Str.ofString "len") = some none) (h2 : env.kindOf (Str.ofString "len") = some .globalImplicit) (h3 : env.globals = mainGlobals) (h4 : env.builtins = builtinsNs) (hes : EsOk h₀ prog w n env (e :: rest) F)
    (h5 : starEach (e :: rest) env = (false, eval e env) :: starEach rest env) (h6 : (backTo pos (starEach rest env)).any (·.1) = false)
    (h7 : eval (.Call (.Name (Str.ofString "len") p) (e :: rest) [] pos) env = (do callWith pos (← eval (.Name (Str.ofString "len") p) env) [] (backTo pos (starEach (e :: rest) env)) (backToKw pos (keywordEach [] env)))) :
    EvOk h₀ prog w n env (.Call (.Name (Str.ofString "len") p) (e :: rest) [] pos) (fun σ Q => F σ fun ps H₁ => lenOp ps H₁ Q) :=
  ev_call (fv := .builtin "len") (nm_len G h1 h2 h3 h4) (kpr_builtin _) hes len_ok h5 h6 h7
theorem ev_chr {p pos : Pos} {e : Expr} {rest : List Expr} {F : EsT} (G : Gr K h₀) (h1 : nsIn K mainGlobals (Str.ofString "chr") = some none) (h2 : env.kindOf (Str.ofString "chr") = some .globalImplicit) (h3 : env.globals = mainGlobals) (h4 : env.builtins = builtinsNs) (hes : EsOk h₀ prog w n env (e :: rest) F)
    (h5 : starEach (e :: rest) env = (false, eval e env) :: starEach rest env) (h6 : (backTo pos (starEach rest env)).any (·.1) = false)
    (h7 : eval (.Call (.Name (Str.ofString "chr") p) (e :: rest) [] pos) env = (do callWith pos (← eval (.Name (Str.ofString "chr") p) env) [] (backTo pos (starEach (e :: rest) env)) (backToKw pos (keywordEach [] env)))) :
    EvOk h₀ prog w n env (.Call (.Name (Str.ofString "chr") p) (e :: rest) [] pos) (fun σ Q => F σ fun ps H₁ => chrOp ps H₁ Q) :=
  ev_call (fv := .builtin "chr") (nm_chr G h1 h2 h3 h4) (kpr_builtin _) hes chr_ok h5 h6 h7
theorem ev_range {p pos : Pos} {e : Expr} {rest : List Expr} {F : EsT} (G : Gr K h₀) (h1 : nsIn K mainGlobals (Str.ofString "range") = some none) (h2 : env.kindOf (Str.ofString "range") = some .globalImplicit) (h3 : env.globals = mainGlobals) (h4 : env.builtins = builtinsNs) (hes : EsOk h₀ prog w n env (e :: rest) F)
    (h5 : starEach (e :: rest) env = (false, eval e env) :: starEach rest env) (h6 : (backTo pos (starEach rest env)).any (·.1) = false)
    (h7 : eval (.Call (.Name (Str.ofString "range") p) (e :: rest) [] pos) env = (do callWith pos (← eval (.Name (Str.ofString "range") p) env) [] (backTo pos (starEach (e :: rest) env)) (backToKw pos (keywordEach [] env)))) :
    EvOk h₀ prog w n env (.Call (.Name (Str.ofString "range") p) (e :: rest) [] pos) (fun σ Q => F σ fun ps H₁ => rangeOp ps H₁ Q) :=
  ev_call (fv := .type "range") (nm_range G h1 h2 h3 h4) (kpr_type _) hes range_ok h5 h6 h7
theorem ev_count {o e : Expr} {apos pos : Pos} {rest : List Expr} {fo : ET} {F : EsT} (pl : Sem Bool) (ho : EvOk h₀ prog w n env o fo) (hes : EsOk h₀ prog w n env (e :: rest) F)
    (he : eval (.Call (.Attribute o (Str.ofString "count") apos) (e :: rest) [] pos) env = (do
      let ov ← eval o env
      standAt apos.atName
      let (f, first) ← holding [ov] (getMethod ov (Str.ofString "count") pl)
      callWith pos f first (backTo pos (starEach (e :: rest) env)) []))
    (hs : starEach (e :: rest) env = (false, eval e env) :: starEach rest env) (hp : (backTo pos (starEach rest env)).any (·.1) = false) :
    EvOk h₀ prog w n env (.Call (.Attribute o (Str.ofString "count") apos) (e :: rest) [] pos) (fun σ Q => fo σ fun a H₁ => ∃ x, a = .str x ∧ F ⟨σ.loc, H₁⟩ fun ps H₂ => countW x ps H₂ Q) :=
  ev_smeth (id := "str.count") (W := countW) pl (fun _ _ _ _ _ _ h => GM.count h) count_ok ho hes he hs hp
end
end Mine
end
section
namespace Mine
mutual
/-- data that may be compared, n deep at most -/
inductive Gd (H : LH) : Nat → PV → Prop
  | none (n : Nat) : Gd H n .none
  | bool (n : Nat) (b : Bool) : Gd H n (.bool b)
  | int (n : Nat) (i : Int) : Gd H n (.int i)
  | str (n : Nat) {x : Str} : PyData.strOk x = true → Gd H n (.str x)
  | tup {n : Nat} {xs : List PV} : Gds H n xs → Gd H (n + 1) (.tup xs)
  | lst {n : Nat} {xs : List PV} : Gds H n xs → Gd H (n + 1) (.lst xs)
  | ref {n : Nat} {a : Addr} {l : LO} : H a = some l → Gds H n l.xs → Gd H (n + 1) (.ref a)
inductive Gds (H : LH) : Nat → List PV → Prop
  | nil (n : Nat) : Gds H n []
  | cons {n : Nat} {x : PV} {xs : List PV} : Gd H n x → Gds H n xs → Gds H n (x :: xs)
end
mutual
theorem Gd.data {H : LH} : ∀ {n : Nat} {p : PV}, Gd H n p → ∃ d, Dt H p d ∧ d.canLay0 = true ∧ d.depth ≤ n
  | _, _, .none _ => ⟨_, .none, rfl, Nat.zero_le _⟩
  | _, _, .bool _ b => ⟨_, .bool b, rfl, Nat.zero_le _⟩
  | _, _, .int _ i => ⟨_, .int i, rfl, Nat.zero_le _⟩
  | _, _, .str _ h => ⟨_, .str _, h, Nat.zero_le _⟩
  | _, _, .tup h => let ⟨ds, a, b, c⟩ := Gds.data h; ⟨.tuple ds, .tup a, b, Nat.succ_le_succ c⟩
  | _, _, .lst h => let ⟨ds, a, b, c⟩ := Gds.data h; ⟨.list ds, .lst a, b, Nat.succ_le_succ c⟩
  | _, _, .ref e h => let ⟨ds, a, b, c⟩ := Gds.data h; ⟨.list ds, .ref e a, b, Nat.succ_le_succ c⟩
theorem Gds.data {H : LH} : ∀ {n : Nat} {p : List PV}, Gds H n p → ∃ d, Dts H p d ∧ PyData.canLayAll0 d = true ∧ PyData.depthAll d ≤ n
  | _, _, .nil _ => ⟨_, .nil, rfl, Nat.zero_le _⟩
  | _, _, .cons x r => by
    obtain ⟨d, a, b, c⟩ := Gd.data x
    obtain ⟨ds, a', b', c'⟩ := Gds.data r
    refine ⟨d :: ds, .cons a a', ?_, ?_⟩
    · simp only [PyData.canLayAll0, b, b', Bool.and_self]
    · simp only [PyData.depthAll]; (first | lia | omega)
end
theorem Gds.of {H : LH} {n : Nat} : ∀ {xs : List PV}, (∀ p ∈ xs, Gd H n p) → Gds H n xs
  | [], _ => .nil n
  | _ :: _, h => .cons (h _ List.mem_cons_self) (Gds.of fun p hp => h p (List.mem_cons_of_mem _ hp))
theorem shaped_of {d : PyData} {n : Nat} (hn : n ≤ 64) (h : d.canLay0 = true) (hd : d.depth ≤ n) : SeqAt.shaped d = true := by
  unfold SeqAt.shaped
  rw [h, Bool.true_and, decide_eq_true_eq]; (first | lia | omega)
theorem same_refs {H : LH} {a b : Addr} {l l' : LO} {R : Bool → Prop} (ha : H a = some l) (hb : H b = some l') (e : l.xs = l'.xs) (hg : Gds H 60 l.xs) (h : R true) : cmpW .Eq (.ref a) (.ref b) H R := by
  obtain ⟨ds, x, y, z⟩ := hg.data
  have hc : PyData.canLay0 (.list ds) = true := y
  have hd : PyData.depth (.list ds) ≤ 61 := Nat.succ_le_succ z
  refine ⟨.list ds, .list ds, .ref ha x, .ref hb (e ▸ x), shaped_of (by decide) hc hd, shaped_of (by decide) hc hd, ?_⟩
  rw [SeqAt.eqv_refl _ hc]; exact h
theorem strOk_mk {l : List Nat} (h : ∀ c ∈ l, c < 128) : PyData.strOk (mkS l) = true := by
  unfold PyData.strOk mkS
  simp only [List.all_toArray, List.all_eq_true, decide_eq_true_eq]
  intro c hc
  have := h c hc
  (first | lia | omega)
end Mine
end
section
namespace Mine
section
variable {h₀ : Heap} {prog : Program} {w : World} {n : Nat} {env : Env}
/-- a statement may be had by what is said of it -/
theorem ExOk.mono {st : Stmt} {F F' : XT} (h : ExOk h₀ prog w n env st F) (hm : ∀ σ Q, F' σ Q → F σ Q) : ExOk h₀ prog w n env st F' :=
  fun A Z loc H s Q Q' E rm S f q => h A Z loc H s Q Q' E rm S (hm _ Q f) q
theorem XsOk.mono {st : List Stmt} {F F' : XT} (h : XsOk h₀ prog w n env st F) (hm : ∀ σ Q, F' σ Q → F σ Q) : XsOk h₀ prog w n env st F' :=
  fun A Z loc H s Q Q' E rm S f q => h A Z loc H s Q Q' E rm S (hm _ Q f) q
end
/-- all names but these are as they were -/
noncomputable def SameBut (ys : List String) (σ σ' : St) : Prop := σ'.H = σ.H ∧ ∀ y, y ∉ ys → σ'.loc y = σ.loc y
theorem SameBut.get {ys : List String} {σ σ' : St} (h : SameBut ys σ σ') {y : String} {p : PV} (hy : y ∉ ys) (e : σ.loc y = some p) : σ'.loc y = some p := (h.2 y hy).trans e
theorem SameBut.refl (ys : List String) (σ : St) : SameBut ys σ σ := ⟨rfl, fun _ _ => rfl⟩
theorem SameBut.trans {ys : List String} {σ σ₁ σ₂ : St} (a : SameBut ys σ σ₁) (b : SameBut ys σ₁ σ₂) : SameBut ys σ σ₂ := ⟨b.1.trans a.1, fun y hy => (b.2 y hy).trans (a.2 y hy)⟩
theorem SameBut.set {ys : List String} {σ : St} {l : Loc} {H : LH} {x : String} {p : PV} (h : SameBut ys σ ⟨l, H⟩) (hx : x ∈ ys) : SameBut ys σ ⟨l.set x p, H⟩ :=
  ⟨h.1, fun y hy => by
    show (l.set x p) y = _
    have hne : y ≠ x := fun e => hy (by rw [e]; exact hx)
    rw [Loc.set_ne _ _ hne]
    exact h.2 y hy⟩
end Mine
end
section
namespace Mine
theorem toList_mk (l : List Nat) : (mkS l).cps.toList = l := by simp [mkS]
theorem count_mk (l : List Nat) (c : Nat) : Txt.count (mkS l) (mkS [c]) = (l.count c : Int) := by
  show Txt.count (mkS l) ⟨#[c]⟩ = _
  rw [PyProof.Rows.count_cnt, toList_mk]
  induction l with
  | nil => rfl
  | cons a r ih =>
    rw [cnt_cons, ih, List.count_cons]
    by_cases h : a = c
    · simp [h]; (first | lia | omega)
    · simp [h]
/-- the parts between the c's -/
noncomputable def spl (c : Nat) : List Nat → List (List Nat)
  | [] => [[]]
  | x :: r => if x = c then [] :: spl c r else match spl c r with
    | p :: ps => (x :: p) :: ps
    | [] => [[x]]
theorem count_W {H : LH} {Q : PV → LH → Prop} {l : List Nat} {c : Nat} (h : Q (.int (l.count c : Nat)) H) : countW (mkS l) [.str (mkS [c])] H Q := ⟨_, rfl, by rw [count_mk]; exact h⟩
/-- what a marked text is made of: a mark opened, a mark closed, a sign -/
inductive Tk where
  | op (m : Nat)
  | cl
  | sg (c : Nat)
noncomputable def Tk.f : Tk → List Nat
  | .op m => [0, m]
  | .cl => [1]
  | .sg c => [c]
noncomputable def flat : List Tk → List Nat
  | [] => []
  | t :: T => t.f ++ flat T
theorem flat_app (A B : List Tk) : flat (A ++ B) = flat A ++ flat B := by
  induction A with
  | nil => rfl
  | cons t A ih => show t.f ++ flat (A ++ B) = t.f ++ flat A ++ flat B; rw [ih, List.append_assoc]
noncomputable def vis : List Tk → Nat
  | [] => 0
  | .sg _ :: T => vis T + 1
  | _ :: T => vis T
theorem vis_app (A B : List Tk) : vis (A ++ B) = vis A + vis B := by
  induction A with
  | nil => simp [vis]
  | cons t A ih => cases t <;> simp [vis, ih]; (first | lia | omega)
/-- the mark behind A, m the mark ahead of it -/
noncomputable def mkF (m : List Nat) : List Tk → List Nat
  | [] => m
  | .op k :: T => mkF [k] T
  | .cl :: T => mkF [] T
  | .sg _ :: T => mkF m T
theorem mkF_app (m : List Nat) (A B : List Tk) : mkF m (A ++ B) = mkF (mkF m A) B := by
  induction A generalizing m with
  | nil => rfl
  | cons t A ih => cases t <;> exact ih _
/-- marks are opened and closed in turn -/
noncomputable def PW (m : List Nat) : List Tk → Prop
  | [] => True
  | .op k :: T => m = [] ∧ 2 ≤ k ∧ PW [k] T
  | .cl :: T => m ≠ [] ∧ PW [] T
  | .sg c :: T => 2 ≤ c ∧ PW m T
theorem PW_app (m : List Nat) (A B : List Tk) : PW m (A ++ B) ↔ PW m A ∧ PW (mkF m A) B := by
  induction A generalizing m with
  | nil => simp [PW, mkF]
  | cons t A ih => cases t <;> simp [PW, mkF, ih, and_assoc]
noncomputable def pre (m : List Nat) : List Nat := match m with | [] => [] | m => 0 :: m
noncomputable def post (m : List Nat) : List Nat := match m with | [] => [] | _ => [1]
noncomputable def preT (m : List Nat) : List Tk := match m with | [] => [] | k :: _ => [.op k]
noncomputable def one (m : List Nat) : Nat := match m with | [] => 0 | _ => 1
/-- the tokens up to the k-th sign, and those behind it -/
noncomputable def cutA : Nat → List Tk → List Tk
  | 0, _ => []
  | _ + 1, [] => []
  | k + 1, .sg c :: T => .sg c :: cutA k T
  | k + 1, t :: T => t :: cutA (k + 1) T
noncomputable def cutB : Nat → List Tk → List Tk
  | 0, T => T
  | _ + 1, [] => []
  | k + 1, .sg _ :: T => cutB k T
  | k + 1, _ :: T => cutB (k + 1) T
theorem cutB_nil : ∀ k, cutB k [] = []
  | 0 => rfl
  | _ + 1 => rfl
theorem cutA_nil : ∀ k, cutA k [] = []
  | 0 => rfl
  | _ + 1 => rfl
theorem cut_app (k : Nat) (T : List Tk) : cutA k T ++ cutB k T = T := by
  induction T generalizing k with
  | nil => cases k <;> rfl
  | cons t T ih =>
    cases k with
    | zero => rfl
    | succ k => cases t <;> simp [cutA, cutB, ih]
theorem vis_cutA (k : Nat) (T : List Tk) (h : k ≤ vis T) : vis (cutA k T) = k := by
  induction T generalizing k with
  | nil => cases k with
    | zero => rfl
    | succ k => simp [vis] at h
  | cons t T ih =>
    cases k with
    | zero => rfl
    | succ k =>
      cases t with
      | sg c => simp only [vis] at h; simp only [cutA, vis, ih k (by (first | lia | omega))]
      | op m => simp only [vis] at h; simp only [cutA, vis, ih _ h]
      | cl => simp only [vis] at h; simp only [cutA, vis, ih _ h]
theorem vis_cutB (k : Nat) (T : List Tk) (h : k ≤ vis T) : vis (cutB k T) = vis T - k := by
  have h1 := vis_cutA k T h
  have h2 := congrArg vis (cut_app k T)
  rw [vis_app] at h2; (first | lia | omega)
theorem cutB_add (j k : Nat) (T : List Tk) : cutB (j + k) T = cutB k (cutB j T) := by
  induction T generalizing j with
  | nil => rw [cutB_nil, cutB_nil, cutB_nil]
  | cons t T ih =>
    cases j with
    | zero => rw [Nat.zero_add]; rfl
    | succ j =>
      rw [show j + 1 + k = (j + k) + 1 from by (first | lia | omega)]
      cases t with
      | sg c => exact ih j
      | op m => show cutB (j + k + 1) T = cutB k (cutB (j + 1) T); rw [← ih (j + 1)]; congr 1; (first | lia | omega)
      | cl => show cutB (j + k + 1) T = cutB k (cutB (j + 1) T); rw [← ih (j + 1)]; congr 1; (first | lia | omega)
theorem cutA_add (j k : Nat) (T : List Tk) : cutA (j + k) T = cutA j T ++ cutA k (cutB j T) := by
  induction T generalizing j with
  | nil => rw [cutA_nil, cutB_nil, cutA_nil, cutA_nil]; rfl
  | cons t T ih =>
    cases j with
    | zero => rw [Nat.zero_add]; rfl
    | succ j =>
      rw [show j + 1 + k = (j + k) + 1 from by (first | lia | omega)]
      have e : j + k + 1 = j + 1 + k := by (first | lia | omega)
      cases t with
      | sg c => show Tk.sg c :: cutA (j + k) T = Tk.sg c :: (cutA j T ++ cutA k (cutB j T)); rw [ih j]
      | op m => show Tk.op m :: cutA (j + k + 1) T = Tk.op m :: (cutA (j + 1) T ++ cutA k (cutB (j + 1) T)); rw [← ih (j + 1), e]
      | cl => show Tk.cl :: cutA (j + k + 1) T = Tk.cl :: (cutA (j + 1) T ++ cutA k (cutB (j + 1) T)); rw [← ih (j + 1), e]
/-- counts -/
theorem count_op {k : Nat} (h : 2 ≤ k) (A : List Tk) : (flat (.op k :: A)).count 0 = (flat A).count 0 + 1 ∧ (flat (.op k :: A)).count 1 = (flat A).count 1 := by
  have e0 : k ≠ 0 := by (first | lia | omega)
  have e1 : k ≠ 1 := by (first | lia | omega)
  simp [flat, Tk.f, List.count_cons, e0, e1]
theorem count_cl (A : List Tk) : (flat (.cl :: A)).count 0 = (flat A).count 0 ∧ (flat (.cl :: A)).count 1 = (flat A).count 1 + 1 := by
  simp [flat, Tk.f, List.count_cons]
theorem count_sg {k : Nat} (h : 2 ≤ k) (A : List Tk) : (flat (.sg k :: A)).count 0 = (flat A).count 0 ∧ (flat (.sg k :: A)).count 1 = (flat A).count 1 := by
  have e0 : k ≠ 0 := by (first | lia | omega)
  have e1 : k ≠ 1 := by (first | lia | omega)
  simp [flat, Tk.f, List.count_cons, e0, e1]
theorem len_op (k : Nat) (A : List Tk) : (flat (.op k :: A)).length = (flat A).length + 2 := by simp [flat, Tk.f]
theorem len_cl (A : List Tk) : (flat (.cl :: A)).length = (flat A).length + 1 := by simp [flat, Tk.f]
theorem len_sg (k : Nat) (A : List Tk) : (flat (.sg k :: A)).length = (flat A).length + 1 := by simp [flat, Tk.f]
theorem one_cons (k : Nat) (l : List Nat) : one (k :: l) = 1 := rfl
theorem one_nil : one [] = 0 := rfl
theorem one_ne {m : List Nat} (h : m ≠ []) : one m = 1 := by cases m with | nil => exact absurd rfl h | cons _ _ => rfl
theorem flat_bal (m : List Nat) (A : List Tk) (h : PW m A) : (flat A).count 0 + one m = (flat A).count 1 + one (mkF m A) := by
  induction A generalizing m with
  | nil => simp [flat, mkF]
  | cons t A ih =>
    cases t with
    | op k =>
      obtain ⟨rfl, h2, h3⟩ := h
      have := ih [k] h3
      rw [(count_op h2 A).1, (count_op h2 A).2]
      rw [one_cons] at this
      simp only [mkF, one_nil]; (first | lia | omega)
    | cl =>
      obtain ⟨h1, h3⟩ := h
      have := ih [] h3
      rw [(count_cl A).1, (count_cl A).2, one_ne h1]
      rw [one_nil] at this
      simp only [mkF]; (first | lia | omega)
    | sg c =>
      obtain ⟨h1, h3⟩ := h
      have := ih m h3
      rw [(count_sg h1 A).1, (count_sg h1 A).2]
      simp only [mkF]; (first | lia | omega)
theorem flat_len (m : List Nat) (A : List Tk) (h : PW m A) : (flat A).length = vis A + 2 * (flat A).count 0 + (flat A).count 1 := by
  induction A generalizing m with
  | nil => simp [flat, vis]
  | cons t A ih =>
    cases t with
    | op k =>
      obtain ⟨rfl, h2, h3⟩ := h
      have := ih [k] h3
      rw [(count_op h2 A).1, (count_op h2 A).2, len_op]
      simp only [vis]; (first | lia | omega)
    | cl =>
      obtain ⟨h1, h3⟩ := h
      have := ih [] h3
      rw [(count_cl A).1, (count_cl A).2, len_cl]
      simp only [vis]; (first | lia | omega)
    | sg c =>
      obtain ⟨h1, h3⟩ := h
      have := ih m h3
      rw [(count_sg h1 A).1, (count_sg h1 A).2, len_sg]
      simp only [vis]; (first | lia | omega)
theorem mkF_len (m : List Nat) (A : List Tk) (hm : m.length ≤ 1) : (mkF m A).length ≤ 1 := by
  induction A generalizing m with
  | nil => exact hm
  | cons t A ih => cases t <;> exact ih _ (by simp [hm])
/-- signs seen so far -/
noncomputable def sn (l : List Nat) : Int := (l.length : Int) - 2 * (l.count 0 : Nat) - (l.count 1 : Nat)
end Mine
end
section
namespace Mine
noncomputable def pcs (w : Nat) : Nat → List Nat → List Tk → List (List Nat)
  | 0, m, B => [pre m ++ flat B]
  | f + 1, m, B => if vis B ≤ w then [pre m ++ flat B] else (pre m ++ flat (cutA w B) ++ post (mkF m (cutA w B))) :: pcs w f (mkF m (cutA w B)) (cutB w B)
theorem pcs_ne (w f : Nat) (m : List Nat) (B : List Tk) : ∃ p r, pcs w f m B = p :: r := by
  cases f with
  | zero => exact ⟨_, _, rfl⟩
  | succ f =>
    unfold pcs
    split
    · exact ⟨_, _, rfl⟩
    · exact ⟨_, _, rfl⟩
/-- the cuts of the law's -/
noncomputable def atk (w M : Nat) (T : List Tk) (n : Nat) : List Tk := if n ≤ M then cutA (n * w) T else T
noncomputable def pcn (w M : Nat) (T : List Tk) (n : Nat) : List Nat :=
  pre (mkF [] (atk w M T n)) ++ ((flat T).drop (flat (atk w M T n)).length).take ((flat (atk w M T (n + 1))).length - (flat (atk w M T n)).length) ++ post (mkF [] (atk w M T (n + 1)))
theorem pcn_eq (w M : Nat) (T D : List Tk) (n : Nat) (R : List Tk) (h1 : atk w M T (n + 1) = atk w M T n ++ D) (h2 : T = atk w M T (n + 1) ++ R) :
    pcn w M T n = pre (mkF [] (atk w M T n)) ++ flat D ++ post (mkF [] (atk w M T n ++ D)) := by
  unfold pcn
  rw [← h1]
  congr 2
  have e : flat T = flat (atk w M T n) ++ (flat D ++ flat R) := by
    conv => lhs; rw [h2, h1]
    rw [flat_app, flat_app, List.append_assoc]
  rw [e, List.drop_left, h1, flat_app, List.length_append, Nat.add_sub_cancel_left, List.take_left]
theorem pcs_law (w M : Nat) (T : List Tk) (hw : 1 ≤ w) (hM1 : M = 0 ∨ M * w < vis T) (hM2 : vis T ≤ (M + 1) * w) (hc : mkF [] T = []) : ∀ f n, n ≤ M → M - n ≤ f →
    pcs w f (mkF [] (cutA (n * w) T)) (cutB (n * w) T) = (List.range' n (M + 1 - n)).map (pcn w M T) := by
  have hle : ∀ n, n ≤ M → n * w ≤ vis T := fun n hn => by
    rcases hM1 with h | h
    · have : n = 0 := by (first | lia | omega)
      subst this; simp
    · have := Nat.mul_le_mul_right w hn; (first | lia | omega)
  have lastp : ∀ n, n = M → pre (mkF [] (cutA (n * w) T)) ++ flat (cutB (n * w) T) = pcn w M T n := fun n hn => by
    have h0 : atk w M T n = cutA (n * w) T := if_pos (by (first | lia | omega))
    have h1 : atk w M T (n + 1) = T := if_neg (by (first | lia | omega))
    rw [pcn_eq w M T (cutB (n * w) T) n [] (by rw [h0, h1, cut_app]) (by rw [h1, List.append_nil]), h0, cut_app, hc]
    simp [post]
  intro f
  induction f with
  | zero =>
    intro n hn hf
    have : n = M := by (first | lia | omega)
    subst this
    show [_] = _
    rw [lastp n rfl, Nat.add_sub_cancel_left]; rfl
  | succ f ih =>
    intro n hn hf
    have hv := vis_cutB (n * w) T (hle n hn)
    unfold pcs
    by_cases hlast : n = M
    · subst hlast
      rw [if_pos (by rw [hv]; rw [Nat.add_mul] at hM2; (first | lia | omega)), lastp n rfl, Nat.add_sub_cancel_left]; rfl
    · have hn1 : n + 1 ≤ M := by (first | lia | omega)
      have hbig : (n + 1) * w < vis T := by
        rcases hM1 with h | h
        · (first | lia | omega)
        · have := Nat.mul_le_mul_right w hn1; (first | lia | omega)
      rw [if_neg (by rw [hv]; rw [Nat.add_mul] at hbig; (first | lia | omega))]
      have e1 : mkF (mkF [] (cutA (n * w) T)) (cutA w (cutB (n * w) T)) = mkF [] (cutA ((n + 1) * w) T) := by
        rw [← mkF_app, ← cutA_add, Nat.add_mul, Nat.one_mul]
      have e2 : cutB w (cutB (n * w) T) = cutB ((n + 1) * w) T := by rw [← cutB_add, Nat.add_mul, Nat.one_mul]
      rw [e1, e2, ih (n + 1) hn1 (by (first | lia | omega)), show M + 1 - n = (M + 1 - (n + 1)) + 1 from by (first | lia | omega), List.range'_succ, List.map_cons]
      congr 1
      have h0 : atk w M T n = cutA (n * w) T := if_pos hn
      have h1 : atk w M T (n + 1) = cutA ((n + 1) * w) T := if_pos hn1
      have h2 : atk w M T (n + 1) = atk w M T n ++ cutA w (cutB (n * w) T) := by rw [h0, h1, ← cutA_add, Nat.add_mul, Nat.one_mul]
      rw [pcn_eq w M T (cutA w (cutB (n * w) T)) n (cutB ((n + 1) * w) T) h2 (by rw [h1, cut_app]), ← h2, h0, h1]
noncomputable def seen (T : List Tk) : List Int := (List.range ((flat T).length + 1)).map fun p => sn ((flat T).take p)
/-- how many cuts -/
noncomputable def cutsN (w V : Nat) : Nat := (V - 1) / w
theorem cutsN_1 (w V : Nat) (hw : 1 ≤ w) : cutsN w V = 0 ∨ cutsN w V * w < V := by
  unfold cutsN
  rcases Nat.eq_zero_or_pos V with h | h
  · left; subst h; simp
  · right
    have := Nat.div_mul_le_self (V - 1) w; (first | lia | omega)
theorem cutsN_2 (w V : Nat) (hw : 1 ≤ w) : V ≤ (cutsN w V + 1) * w := by
  unfold cutsN
  have := Nat.lt_mul_div_succ (V - 1) (show 0 < w by (first | lia | omega))
  rw [Nat.mul_comm] at this; (first | lia | omega)
end Mine
end
section
namespace Mine
theorem fm_ok (x : Int) {k : Int} (h : 0 < k) : 0 ≤ x.fmod k ∧ x.fmod k < k := ⟨Int.fmod_nonneg_of_pos _ h, Int.fmod_lt_of_pos _ h⟩
theorem clip_nat (n k : Nat) : clipAt n (k : Int) = min k n := by
  unfold clipAt
  rw [if_neg (Int.not_lt.mpr (Int.natCast_nonneg k))]
  rcases Nat.le_total k n with h | h
  · rw [Int.min_eq_left (Int.ofNat_le.mpr h), Nat.min_eq_left h, Int.max_eq_right (Int.natCast_nonneg _), Int.toNat_natCast]
  · rw [Int.min_eq_right (Int.ofNat_le.mpr h), Nat.min_eq_right h, Int.max_eq_right (Int.natCast_nonneg _), Int.toNat_natCast]
theorem cut_lo {α : Type} (xs : List α) (k : Nat) : cut xs (some (k : Int)) none = xs.drop k := by
  unfold cut
  simp only [Option.elim, clip_nat]
  by_cases h : k ≤ xs.length
  · rw [Nat.min_eq_left h, List.take_of_length_le (by simp)]
  · rw [Nat.min_eq_right (by (first | lia | omega)), List.drop_of_length_le (by (first | lia | omega) : xs.length ≤ k)]; simp
theorem cut_hi {α : Type} (xs : List α) (k : Nat) : cut xs none (some (k : Int)) = xs.take k := by
  unfold cut
  simp only [Option.elim, clip_nat, List.drop_zero, Nat.sub_zero]
  by_cases h : k ≤ xs.length
  · rw [Nat.min_eq_left h]
  · rw [Nat.min_eq_right (by (first | lia | omega)), List.take_of_length_le (by (first | lia | omega) : xs.length ≤ k), List.take_length]
theorem cut_both {α : Type} (xs : List α) (i j : Nat) (hi : i ≤ xs.length) (hj : j ≤ xs.length) : cut xs (some (i : Int)) (some (j : Int)) = (xs.drop i).take (j - i) := by
  unfold cut
  simp only [Option.elim, clip_nat]
  rw [Nat.min_eq_left hi, Nat.min_eq_left hj]
noncomputable def isMk (m : List Nat) : Prop := m = [] ∨ ∃ k, 2 ≤ k ∧ m = [k]
theorem mkF_isMk (m : List Nat) (A : List Tk) (h : PW m A) (hm : isMk m) : isMk (mkF m A) := by
  induction A generalizing m with
  | nil => exact hm
  | cons t A ih =>
    cases t with
    | op k => obtain ⟨_, h2, h3⟩ := h; exact ih _ h3 (.inr ⟨k, h2, rfl⟩)
    | cl => exact ih _ h.2 (.inl rfl)
    | sg c => exact ih _ h.2 hm
/-- a mark closed, another one opened -/
noncomputable def swT (now m : List Nat) : List Tk := (match now with | [] => [] | _ => [.cl]) ++ preT m
theorem swT_ok (A : List Tk) (m : List Nat) (h : PW [] A) (hm : isMk m) : PW [] (A ++ swT (mkF [] A) m) ∧ mkF [] (A ++ swT (mkF [] A) m) = m ∧ flat (A ++ swT (mkF [] A) m) = flat A ++ post (mkF [] A) ++ pre m ∧ vis (A ++ swT (mkF [] A) m) = vis A := by
  rw [PW_app, mkF_app, flat_app, vis_app]
  generalize hn : mkF [] A = now
  rcases hm with rfl | ⟨k, hk, rfl⟩
  · cases now with
    | nil => simp [swT, preT, PW, mkF, flat, post, pre, vis, h]
    | cons a r => simp [swT, preT, PW, mkF, flat, Tk.f, post, pre, vis, h]
  · cases now with
    | nil => simp [swT, preT, PW, mkF, flat, Tk.f, post, pre, vis, h, hk]
    | cons a r => simp [swT, preT, PW, mkF, flat, Tk.f, post, pre, vis, h, hk]
theorem pre_len (m : List Nat) (h : isMk m) : (pre m).length ≤ 2 := by
  rcases h with rfl | ⟨k, _, rfl⟩ <;> simp [pre]
theorem post_len (m : List Nat) : (post m).length ≤ 1 := by cases m <;> simp [post]
/-- the mark of a number -/
noncomputable def mark4 (x : Int) : List Nat := if x.fmod 4 = 0 then [] else if x.fmod 4 = 1 then [43] else if x.fmod 4 = 2 then [45] else [94]
theorem mark4_isMk (x : Int) : isMk (mark4 x) := by
  unfold mark4
  split
  · exact .inl rfl
  · split
    · exact .inr ⟨43, by decide, rfl⟩
    · split
      · exact .inr ⟨45, by decide, rfl⟩
      · exact .inr ⟨94, by decide, rfl⟩
theorem mark4_idx {H : LH} {Q : PV → LH → Prop} (x : Int) (h : Q (.str (mkS (mark4 x))) H) :
    idxW (.lst [.str (mkS []), .str (mkS [43]), .str (mkS [45]), .str (mkS [94])]) (.int (x.fmod 4)) H Q := by
  have h4 := fm_ok x (k := 4) (by decide)
  have hm : x.fmod 4 = 0 ∨ x.fmod 4 = 1 ∨ x.fmod 4 = 2 ∨ x.fmod 4 = 3 := by (first | lia | omega)
  unfold mark4 at h
  rcases hm with e | e | e | e
  · rw [e] at h ⊢; exact idx_L (k := 0) rfl (by simp) (by simpa using h)
  · rw [e] at h ⊢; exact idx_L (k := 1) rfl (by simp) (by simpa using h)
  · rw [e] at h ⊢; exact idx_L (k := 2) rfl (by simp) (by simpa using h)
  · rw [e] at h ⊢; exact idx_L (k := 3) rfl (by simp) (by simpa using h)
theorem ne_nilS (m : List Nat) : (mkS m != mkS []) = !m.isEmpty := by
  cases m with
  | nil => rfl
  | cons a r =>
    show (mkS (a :: r) != mkS []) = true
    rw [bne, mkS_beq]; rfl
end Mine
namespace Mine
theorem cmp_neI {H : LH} {i j : Int} {R : Bool → Prop} (h : R (i != j)) : cmpW .NotEq (.int i) (.int j) H R := h
theorem ifexp_post {now : List Nat} {R : PV → Prop} (h : R (.str (mkS (post now)))) : if (mkS now != mkS []) = true then R (.str (mkS [1])) else R (.str (mkS [])) := by
  rw [ne_nilS]
  cases now with
  | nil => exact h
  | cons a r => exact h
theorem ifexp_pre {m : List Nat} {H : LH} {R : PV → LH → Prop} (hm : m.length ≤ 1) (h : R (.str (mkS (pre m))) H) : if (mkS m != mkS []) = true then binW .Add (.str (mkS [0])) (.str (mkS m)) H (fun v H₂ => R v H₂) else R (.str (mkS [])) H := by
  rw [ne_nilS]
  cases m with
  | nil => exact h
  | cons a r =>
    rw [if_pos (by simp)]
    refine bin_addS (by rw [mkS_len, mkS_len, sizeLine_eq]; simp only [List.length_cons, List.length_nil] at hm ⊢; (first | lia | omega)) ?_
    rw [mkS_append]; exact h
end Mine
namespace Mine
theorem ediv_bd {x c : Int} (hx : 0 ≤ x) (hc : 0 ≤ c) : 0 ≤ x / c ∧ x / c ≤ x := by
  refine ⟨Int.ediv_nonneg hx hc, ?_⟩
  exact Int.ediv_le_self c hx
theorem small_ok {a b c : Int} (ha : -1000000 ≤ a ∧ a ≤ 1000000) (hb : -1000000 ≤ b ∧ b ≤ 1000000) (hc : -1000 ≤ c ∧ c ≤ 1000) : Builtin.Range.small a b c = true := by
  have hn : 0 ≤ Builtin.Range.rangeSize a b c ∧ Builtin.Range.rangeSize a b c ≤ 3000000 := by
    unfold Builtin.Range.rangeSize
    split
    · split
      · have := ediv_bd (x := b - a - 1) (c := c) (by (first | lia | omega)) (by (first | lia | omega)); (first | lia | omega)
      · (first | lia | omega)
    · split
      · have := ediv_bd (x := a - b - 1) (c := -c) (by (first | lia | omega)) (by (first | lia | omega)); (first | lia | omega)
      · (first | lia | omega)
  unfold Builtin.Range.small
  generalize Builtin.Range.rangeSize a b c = n at hn
  simp only [Builtin.Range.rangeFitsLong, Bool.and_eq_true, Bool.or_eq_true, decide_eq_true_eq, beq_iff_eq]
  refine ⟨⟨⟨⟨by (first | lia | omega), by (first | lia | omega)⟩, by (first | lia | omega)⟩, by (first | lia | omega)⟩, .inr ?_⟩
  split <;> simp only [Bool.and_eq_true, decide_eq_true_eq] <;> (first | lia | omega)
end Mine
end
section
namespace Mine
theorem ofS0 : Str.ofString "\x00" = mkS [0] := by decide +kernel
theorem ofS1 : Str.ofString "\x01" = mkS [1] := by decide +kernel
theorem ofSe : Str.ofString "" = mkS [] := by decide +kernel
theorem ofSp : Str.ofString "+" = mkS [43] := by decide +kernel
theorem ofSm : Str.ofString "-" = mkS [45] := by decide +kernel
theorem ofSc : Str.ofString "^" = mkS [94] := by decide +kernel
theorem ofSg : Str.ofString ">" = mkS [62] := by decide +kernel
theorem MOp.mono {h₀ : Heap} {prog : Program} {w : World} {n : Nat} {env : Env} {loc : Loc} {Z : Zm} {H : LH} {s : Shared} {t : Sem Value} {W W' : (PV → LH → Prop) → Prop} (h : MOp h₀ prog w n env loc Z H s t W) (hw : ∀ Q, W' Q → W Q) : MOp h₀ prog w n env loc Z H s t W' :=
  fun A Q Q' E rm f q => h A Q Q' E rm (hw Q f) q
theorem LH.set_set (H : LH) (a : Addr) (l l' : LO) : (H.set a l).set a l' = H.set a l' := by
  funext b
  unfold LH.set
  by_cases h : b = a <;> simp [h]
theorem idx_S {l : List Nat} {H : LH} {Q : PV → LH → Prop} {k c : Nat} (hc : l[k]? = some c) (hl : l.length ≤ 100000) (h : Q (.str (mkS [c])) H) : idxW (.str (mkS l)) (.int (k : Int)) H Q := by
  have hk := (List.getElem?_eq_some_iff.mp hc).1
  refine ⟨by (first | lia | omega), c, ?_, h⟩
  rw [mkS_len, seqIndex_nat hk]
  show (mkS l).cps[k]? = some c
  simp [mkS, hc]
/-- the rows that are laid behind -/
noncomputable def rowsOf (line : PV) : List (List Nat) → List PV
  | [] => []
  | p :: ps => .tup [line, .str (mkS p)] :: ps.map fun p => .tup [.str (mkS [62]), .str (mkS p)]
theorem rowsOf_gt (ps : List (List Nat)) : rowsOf (.str (mkS [62])) ps = ps.map fun p => .tup [.str (mkS [62]), .str (mkS p)] := by cases ps <;> rfl
theorem rowsOf_len (line : PV) (ps : List (List Nat)) : (rowsOf line ps).length = ps.length := by cases ps <;> simp [rowsOf]
/-- what _split_line does -/
inductive SpW (C : Addr) (v : Nat) (ps : List PV) (H : LH) (Q : PV → LH → Prop) : Prop
  | mk (fs : List (String × PV)) (a : Addr) (xs : List PV) (line : PV) (t : Bool) (m : List Nat) (B : List Tk) (wr : Nat) (h0 : ps = [.obj C fs, .ref a, line, .str (mkS (pre m ++ flat B))]) (h1 : fs.lookup "_wrapcolumn" = some (.int (wr : Int))) (h2 : fs.lookup "_split_line" = none) (h3 : H a = some ⟨true, xs⟩) (h4 : (∀ H R, R t → truthW line H R)) (h5 : isMk m) (h6 : PW m B) (h7 : mkF m B = []) (h8 : vis B ≤ v) (h9 : (flat B).length ≤ 6000) (h10 : 1 ≤ wr) (h11 : wr ≤ 1000) (h12 : xs.length + vis B ≤ 10000) (h13 : Q .none (H.set a ⟨true, xs ++ rowsOf line (if t then pcs wr v m B else [pre m ++ flat B])⟩)) : SpW C v ps H Q
theorem SpW.mono {C : Addr} {v : Nat} {ps : List PV} {H : LH} {Q Q' : PV → LH → Prop} (hm : ∀ r H', Q r H' → Q' r H') (h : SpW C v ps H Q) : SpW C v ps H Q' := by
  obtain ⟨fs, a, xs, line, t, m, B, wr, h1, h2, h3, h4, h5, h6, h7, h8, h9, h10, h11, h12, h13, h14⟩ := h
  exact ⟨fs, a, xs, line, t, m, B, wr, h1, h2, h3, h4, h5, h6, h7, h8, h9, h10, h11, h12, h13, hm _ _ h14⟩
theorem flat_preT (m : List Nat) (B : List Tk) (h : isMk m) : flat (preT m ++ B) = pre m ++ flat B := by
  rcases h with rfl | ⟨k, _, rfl⟩ <;> rfl
theorem vis_preT (m : List Nat) (B : List Tk) : vis (preT m ++ B) = vis B := by cases m <;> rfl
theorem mkF_preT (m : List Nat) (B : List Tk) (h : isMk m) : mkF [] (preT m ++ B) = mkF m B := by
  rcases h with rfl | ⟨k, _, rfl⟩ <;> rfl
theorem PW_preT (m : List Nat) (B : List Tk) (h : isMk m) (hB : PW m B) : PW [] (preT m ++ B) := by
  rcases h with rfl | ⟨k, hk, rfl⟩
  · exact hB
  · exact ⟨rfl, hk, hB⟩
theorem cutA_preT (m : List Nat) (B : List Tk) (w : Nat) (hw : 1 ≤ w) : cutA w (preT m ++ B) = preT m ++ cutA w B := by
  obtain ⟨w, rfl⟩ : ∃ j, w = j + 1 := ⟨w - 1, by (first | lia | omega)⟩
  cases m with
  | nil => rfl
  | cons k r => show cutA (w + 1) (.op k :: B) = _; simp [cutA, preT]
theorem cutB_preT (m : List Nat) (B : List Tk) (w : Nat) (hw : 1 ≤ w) : cutB w (preT m ++ B) = cutB w B := by
  obtain ⟨w, rfl⟩ : ∃ j, w = j + 1 := ⟨w - 1, by (first | lia | omega)⟩
  cases m with
  | nil => rfl
  | cons k r => show cutB (w + 1) (.op k :: B) = _; simp [cutB]
/-- the loop's state -/
structure LpI (T : List Tk) (wr : Nat) (A B : List Tk) : Prop where
  all : T = A ++ B
  le : vis A ≤ wr
  cut : A ++ cutA (wr - vis A) B = cutA wr T
theorem LpI.init (T : List Tk) (wr : Nat) : LpI T wr [] T := ⟨rfl, Nat.zero_le _, rfl⟩
theorem LpI.done {T : List Tk} {wr : Nat} {A B : List Tk} (h : LpI T wr A B) (e : vis A = wr) : A = cutA wr T := by
  have := h.cut
  rw [e, Nat.sub_self] at this
  rw [← this]; simp [cutA]
theorem LpI.next {T : List Tk} {wr : Nat} {A B : List Tk} {t : Tk} (h : LpI T wr A (t :: B)) (hlt : vis A < wr) : LpI T wr (A ++ [t]) B := by
  have hc := h.cut
  obtain ⟨k, hk⟩ : ∃ k, wr - vis A = k + 1 := ⟨wr - vis A - 1, by (first | lia | omega)⟩
  rw [hk] at hc
  refine ⟨by rw [h.all, List.append_assoc]; rfl, ?_, ?_⟩
  · rw [vis_app]
    cases t <;> simp [vis] <;> (first | lia | omega)
  · rw [vis_app, ← hc, List.append_assoc]
    congr 1
    cases t with
    | sg c =>
      rw [show wr - (vis A + vis [Tk.sg c]) = k from by simp [vis]; (first | lia | omega)]; simp [cutA]
    | op m =>
      rw [show wr - (vis A + vis [Tk.op m]) = k + 1 from by simp [vis]; (first | lia | omega)]; simp [cutA]
    | cl =>
      rw [show wr - (vis A + vis [Tk.cl]) = k + 1 from by simp [vis]; (first | lia | omega)]; simp [cutA]
theorem get_app (X Y : List Nat) (i : Nat) : (X ++ Y)[X.length + i]? = Y[i]? := by
  rw [List.getElem?_append_right (by (first | lia | omega))]; congr 1; (first | lia | omega)
end Mine
namespace Mine
theorem pcs_len (w : Nat) (hw : 1 ≤ w) : ∀ f m B, (pcs w f m B).length ≤ vis B + 1 := by
  intro f
  induction f with
  | zero => intro m B; simp [pcs]
  | succ f ih =>
    intro m B
    unfold pcs
    split
    · simp
    · have h1 := ih (mkF m (cutA w B)) (cutB w B)
      have := vis_cutB w B (by (first | lia | omega))
      simp only [List.length_cons]; (first | lia | omega)
end Mine
end
section
namespace Mine
/-- signs with their marks -/
abbrev Cells := List (Nat × List Nat)
noncomputable def okCs (r : Cells) : Prop := ∀ x ∈ r, 2 ≤ x.1 ∧ isMk x.2
noncomputable def sw1 (last m : List Nat) : List Tk := if m = last then [] else swT last m
noncomputable def tok (last : List Nat) : Cells → List Tk
  | [] => (match last with | [] => [] | _ => [.cl])
  | (c, m) :: r => sw1 last m ++ .sg c :: tok m r
noncomputable def cellsOf (m : List Nat) : List Tk → Cells
  | [] => []
  | .op k :: T => cellsOf [k] T
  | .cl :: T => cellsOf [] T
  | .sg c :: T => (c, m) :: cellsOf m T
theorem cellsOf_app (m : List Nat) (A B : List Tk) : cellsOf m (A ++ B) = cellsOf m A ++ cellsOf (mkF m A) B := by
  induction A generalizing m with
  | nil => rfl
  | cons t A ih => cases t <;> simp [cellsOf, mkF, ih]
theorem cellsOf_len (m : List Nat) (A : List Tk) : (cellsOf m A).length = vis A := by
  induction A generalizing m with
  | nil => rfl
  | cons t A ih => cases t <;> simp [cellsOf, vis, ih]
theorem sw1_ok (last m : List Nat) (hl : isMk last) (hm : isMk m) : PW last (sw1 last m) ∧ mkF last (sw1 last m) = m ∧ cellsOf last (sw1 last m) = [] ∧ vis (sw1 last m) = 0 ∧ (flat (sw1 last m)).length ≤ 3 := by
  unfold sw1
  by_cases e : m = last
  · rw [if_pos e]; subst e; exact ⟨trivial, rfl, rfl, rfl, by simp [flat]⟩
  · rw [if_neg e]
    rcases hl with rfl | ⟨a, ha, rfl⟩
    · rcases hm with rfl | ⟨k, hk, rfl⟩
      · exact absurd rfl e
      · simp [swT, preT, PW, mkF, cellsOf, vis, flat, Tk.f, hk]
    · rcases hm with rfl | ⟨k, hk, rfl⟩
      · simp [swT, preT, PW, mkF, cellsOf, vis, flat, Tk.f]
      · simp [swT, preT, PW, mkF, cellsOf, vis, flat, Tk.f, hk]
theorem tok_ok : ∀ (r : Cells) (last : List Nat), okCs r → isMk last → PW last (tok last r) ∧ mkF last (tok last r) = [] ∧ cellsOf last (tok last r) = r ∧ (flat (tok last r)).length ≤ 4 * r.length + 1
  | [], last, _, hl => by
    rcases hl with rfl | ⟨k, hk, rfl⟩
    · exact ⟨trivial, rfl, rfl, by simp [tok, flat]⟩
    · simp [tok, PW, mkF, cellsOf, flat, Tk.f]
  | (c, m) :: r, last, h, hl => by
    have hx := h (c, m) List.mem_cons_self
    obtain ⟨a1, a2, a3, _, a5⟩ := sw1_ok last m hl hx.2
    obtain ⟨b1, b2, b3, b4⟩ := tok_ok r m (fun x hx => h x (List.mem_cons_of_mem _ hx)) hx.2
    unfold tok
    refine ⟨?_, ?_, ?_, ?_⟩
    · rw [PW_app, a2]; exact ⟨a1, hx.1, b1⟩
    · rw [mkF_app, a2]; exact b2
    · rw [cellsOf_app, a2, a3]; show (c, m) :: cellsOf m (tok m r) = _; rw [b3]
    · rw [flat_app, List.length_append, len_sg, List.length_cons]; (first | lia | omega)
theorem cellsOf_cutA (m : List Nat) (k : Nat) (T : List Tk) : cellsOf m (cutA k T) = (cellsOf m T).take k := by
  induction T generalizing m k with
  | nil => rw [cutA_nil]; simp [cellsOf]
  | cons t T ih =>
    cases k with
    | zero => simp [cutA, cellsOf]
    | succ k => cases t <;> simp [cutA, cellsOf, ih]
theorem cellsOf_cutB (m : List Nat) (k : Nat) (T : List Tk) : cellsOf (mkF m (cutA k T)) (cutB k T) = (cellsOf m T).drop k := by
  induction T generalizing m k with
  | nil => rw [cutA_nil, cutB_nil]; simp [cellsOf, mkF]
  | cons t T ih =>
    cases k with
    | zero => simp [cutA, cutB, mkF]
    | succ k => cases t <;> simp [cutA, cutB, cellsOf, mkF, ih]
/-- a part behind a 0: the mark, what stands within it, what stands behind it -/
structure Pt3 where
  k : Nat
  I : List Nat
  O : List Nat
noncomputable def Pt3.l (p : Pt3) : List Nat := p.k :: (p.I ++ 1 :: p.O)
noncomputable def Pt3.cs (p : Pt3) : Cells := p.I.map (fun c => (c, [p.k])) ++ p.O.map fun c => (c, [])
/-- the piece as tokens -/
noncomputable def postT (m : List Nat) : List Tk := match m with | [] => [] | _ => [.cl]
theorem piece_ok (m : List Nat) (A : List Tk) (hm : isMk m) (hP : PW m A) : PW [] (preT m ++ A ++ postT (mkF m A)) ∧ mkF [] (preT m ++ A ++ postT (mkF m A)) = [] ∧ flat (preT m ++ A ++ postT (mkF m A)) = pre m ++ flat A ++ post (mkF m A) ∧ cellsOf [] (preT m ++ A ++ postT (mkF m A)) = cellsOf m A := by
  have h1 := mkF_preT m A hm
  have h2 := PW_preT m A hm hP
  have h3 := flat_preT m A hm
  have h4 : cellsOf [] (preT m ++ A) = cellsOf m A := by rcases hm with rfl | ⟨k, _, rfl⟩ <;> rfl
  generalize preT m ++ A = D at h1 h2 h3 h4
  generalize mkF m A = M at h1
  refine ⟨(PW_app [] D _).mpr ⟨h2, ?_⟩, ?_, ?_, ?_⟩
  · rw [h1]; cases M <;> simp [postT, PW]
  · rw [mkF_app, h1]; cases M <;> simp [postT, mkF]
  · rw [flat_app, h3]; cases M <;> simp [postT, post, flat, Tk.f]
  · rw [cellsOf_app, h1, h4]; cases M <;> simp [postT, cellsOf]
end Mine
end
section
namespace Mine
theorem VRs.rep {Z : Zm} {xs : List PV} {vs : List Value} (h : VRs Z xs vs) : ∀ k : Nat, VRs Z (List.replicate k xs).flatten (List.replicate k vs).flatten
  | 0 => .nil
  | k + 1 => by
    rw [List.replicate_succ, List.replicate_succ, List.flatten_cons, List.flatten_cons]
    exact h.append (VRs.rep h k)
section
variable {h₀ : Heap} {prog : Program} {w : World} {n : Nat} {env : Env}
/-- l * k -/
noncomputable def lmulW (a b : PV) (H : LH) (Q : PV → LH → Prop) : Prop := ∃ xs j, lstOf H a = some xs ∧ b = .int j ∧ (-(1000000) ≤ j ∧ j ≤ 1000000) ∧ xs.length * j.toNat ≤ 1000000 ∧ listW (List.replicate j.toNat xs).flatten H Q
theorem lmul_ok (loc : Loc) (Z : Zm) (H : LH) (s : Shared) (a b : PV) (x y : Value) (S : Sat h₀ Z env loc H s.heap) (va : VR Z a x) (vb : VR Z b y) : OpOk h₀ prog w n env loc Z H s (binaryOp .Mult x y) (lmulW a b H) := by
  rintro A Q Q' E rm ⟨xs, j, hl, rfl, hj, hsz, f⟩ q
  obtain ⟨l, vs, k, rfl, ho, r⟩ := lst_at S va hl
  cases vb with
  | int _ u =>
    have hsz' : vs.toArray.size * j.toNat ≤ 1000000 := by rw [List.size_toArray, r.length]; exact hsz
    refine wpAny_binaryOp_repeat_ref (T := "list") (U := "int") (by decide) ⟨_, ho, rfl⟩ (fun s' => typeIs_int s' j u) noFill_list_mul F.fills_int_mul F.slot_int_rmul repeat_list F.slot_int_index.lookup
      (call_meets F.slot_int_rmul (typeIs_int s j u) F.entry_int_rmul (F.args_int_rmul_2 _ _) (lm_int_rmul_list_any j u l vs.toArray k none #[])
        ⟨ho, rfl, ⟨_, ho, rfl⟩, call_meets F.slot_list_mul ⟨_, ho, rfl⟩ F.entry_list_mul (F.args_list_mul_2 _ _)
          (lm_list_mul_any l vs.toArray k none #[] j u (by simp [Builtin.List.listFitsIndex]; (first | lia | omega)) (by (first | lia | omega)) (by rw [List.size_toArray, r.length]; simp [Builtin.List.listTooLong, sizeLine_eq]; (first | lia | omega)))
          ⟨ho, ?_⟩⟩)
    refine list_new S f q (Kp.push _ _) (get_size _) (vs := (List.replicate j.toNat vs).flatten) (k := 0) ?_ (r.rep _)
    rw [Heap.get?_push_size _ rfl, listMul_foldl_if]
theorem ev_lmul {l r : Expr} {pos : Pos} {fl fr : ET} (hl : EvOk h₀ prog w n env l fl) (hr : EvOk h₀ prog w n env r fr) :
    EvOk h₀ prog w n env (.BinOp l .Mult r pos) (fun σ Q => fl σ fun a H₁ => fr ⟨σ.loc, H₁⟩ fun b H₂ => lmulW a b H₂ Q) := ev_bin hl hr lmul_ok
end
end Mine
end
section
namespace Mine
/-- a zip as it stands -/
abbrev IsZp (h : Heap) (z TI TO : Addr) (f0 f1 : Value) : Prop :=
  h.get? z = some { cls := .type "zip", dict := none, data := .fields #[f0, f1, .bool false, .ref TI, .ref TO], slots := #[] }
section
variable {prog : Program} {w : World} {A : Around} {E : Value → Shared → Prop} {s : Shared}
end
end Mine
end
section
namespace Mine
/-- the things that a zip is made of -/
structure Zs where
  z : Addr
  TI : Addr
  TO : Addr
  i1 : Addr
  i2 : Addr
  fp1 : List Addr
  fp2 : List Addr
  n1 : Nat
  n2 : Nat
  P1 : Nat → Value → Prop
  P2 : Nat → Value → Prop
  St1 : Nat → Heap → Prop
  St2 : Nat → Heap → Prop
structure ZOk (prog : Program) (w : World) (Y : Zs) : Prop where
  d1 : ∀ A : Around, A.handled = none → Draws prog w A Y.i1 Y.fp1 Y.n1 Y.P1 Y.St1
  d2 : ∀ A : Around, A.handled = none → Draws prog w A Y.i2 Y.fp2 Y.n2 Y.P2 Y.St2
  le : Y.n1 ≤ Y.n2
  z1 : Y.z ≠ Y.i1
  z2 : Y.z ≠ Y.i2
  zf1 : Y.z ∉ Y.fp1
  zf2 : Y.z ∉ Y.fp2
  i12 : Y.i1 ∉ Y.fp2
  i21 : Y.i2 ∉ Y.fp1
  tz : Y.TO ≠ Y.z
  t1 : Y.TO ≠ Y.i1
  t2 : Y.TO ≠ Y.i2
  tf1 : Y.TO ∉ Y.fp1
  tf2 : Y.TO ∉ Y.fp2
  iz : Y.TI ≠ Y.z
  ii1 : Y.TI ≠ Y.i1
  ii2 : Y.TI ≠ Y.i2
  io : Y.TI ≠ Y.TO
/-- a zip amid its walk -/
structure ZB (Y : Zs) (S : Addr) (i : Nat) (h : Heap) : Prop where
  zp : ∃ (T : Nat) (f1 : Bool) (oT : Obj), IsZp h Y.z Y.TI Y.TO (rawInt T) (.bool f1) ∧ h.get? T = some oT ∧ T ≠ Y.z ∧ T ≠ Y.i1 ∧ T ≠ Y.i2 ∧ T ≠ S
  ti : IsPair h Y.TI (.ref Y.i1) (.ref Y.i2)
  s1 : Y.St1 i h
  s2 : Y.St2 i h
section
variable {prog : Program} {w : World} {A : Around} {E : Value → Shared → Prop} {s : Shared} {Y : Zs} {S : Addr}
/-- the pairs that a list holds -/
noncomputable def PairsAt (Y : Zs) (S : Addr) (h : Heap) (Ts : List Addr) : Prop := ∀ j T, Ts[j]? = some T → S < T ∧ T ≠ Y.z ∧ T ≠ Y.i1 ∧ T ≠ Y.i2 ∧ ∃ x y, h.get? T = some { cls := .type "tuple", data := .seq #[x, y] } ∧ Y.P1 j x ∧ Y.P2 j y
end
end Mine
end
section
namespace Mine
/-- a zip ahead of its walk -/
structure ZA (Y : Zs) (h : Heap) : Prop where
  zp : IsZp h Y.z Y.TI Y.TO .none (.bool false)
  ti : IsPair h Y.TI (.ref Y.i1) (.ref Y.i2)
  to : ∃ a b, IsPair h Y.TO a b
  s1 : Y.St1 0 h
  s2 : Y.St2 0 h
section
variable {prog : Program} {w : World} {A : Around} {E : Value → Shared → Prop} {s : Shared} {Y : Zs} {S : Addr}
end
end Mine
end
section
namespace Mine
abbrev zsH1 (h : Heap) (x : Str) (t : Tok) : Heap := h.push { cls := .type "str_ascii_iterator", data := .fields #[.str x t, .int 0 0] }
abbrev zsH2 (h : Heap) (x : Str) (t : Tok) (l2 : Addr) : Heap := (zsH1 h x t).push { cls := .type "list_iterator", data := .fields #[.ref l2, .int 0 0] }
abbrev zsH3 (h : Heap) (x : Str) (t : Tok) (l2 : Addr) : Heap := (zsH2 h x t l2).push { cls := .type "tuple", data := .seq #[.ref h.objs.size, .ref (zsH1 h x t).objs.size] }
abbrev zsH4 (h : Heap) (x : Str) (t : Tok) (l2 : Addr) : Heap := (zsH3 h x t l2).push { cls := .type "tuple", data := .seq #[.none, .none] }
abbrev zsH5 (h : Heap) (x : Str) (t : Tok) (l2 : Addr) : Heap := (zsH4 h x t l2).push { cls := .type "zip", data := .fields #[.none, .bool false, .bool false, .ref (zsH2 h x t l2).objs.size, .ref (zsH3 h x t l2).objs.size] }
section
variable {prog : Program} {w : World} {A : Around} {E : Value → Shared → Prop} {s : Shared}
end
section
variable {h₀ : Heap} {prog : Program} {w : World} {n : Nat} {env : Env}
end
end Mine
end
section
namespace Mine
noncomputable def zsrc (H : LH) : PV → Option (List PV)
  | .str x => if x.cps.all (· < 128) then some (strSigns x) else none
  | a => lstOf H a
/-- list(zip(a, b)) -/
noncomputable def zlW (a b : PV) (H : LH) (Q : PV → LH → Prop) : Prop :=
  ∃ xs ys, zsrc H a = some xs ∧ lstOf H b = some ys ∧ 0 < xs.length ∧ xs.length ≤ ys.length ∧ ys.length ≤ 100000 ∧ Q (.lst (List.zipWith (fun p q => .tup [p, q]) xs ys)) H
section
variable {h₀ : Heap} {prog : Program} {w : World} {n : Nat} {env : Env}
end
end Mine
end
section
namespace Mine
section
variable {K : Frag} {h₀ : Heap} {prog : Program} {w : World} {n : Nat} {env : Env}
theorem nm_list {pos : Pos} (G : Gr K h₀) (e : nsIn K mainGlobals (Str.ofString "list") = some none) (hx : env.kindOf (Str.ofString "list") = some .globalImplicit) (hg : env.globals = mainGlobals) (hb : env.builtins = builtinsNs) : NmOk h₀ prog w env (.Name (Str.ofString "list") pos) (.type "list") :=
  nm_boot G e (by decide +kernel) (by decide) hx hg hb (by decide)
end
end Mine
end
section
namespace Mine
section
variable {h₀ : Heap} {prog : Program} {w : World} {n : Nat} {env : Env}
noncomputable def partitionW (x : Str) (ps : List PV) (H : LH) (Q : PV → LH → Prop) : Prop :=
  ∃ y, ps = [.str y] ∧ (y.length == 0) = false ∧ x.length ≤ sizeLine ∧ Q (.tup [.str (Txt.partition x y).1, .str (Txt.partition x y).2.1, .str (Txt.partition x y).2.2]) H
end
end Mine
end
section
namespace Mine
section
variable {h₀ : Heap} {prog : Program} {w : World} {n : Nat} {env : Env}
theorem st_forT {elts : List Expr} {tk0} {tpos : Pos} {it : Expr} {b : List Stmt} {pos : Pos} {fi : ET} {fa : PV → St → (St → Prop) → Prop} {fb : XT} (hi : EvOk h₀ prog w n env it fi) (ha : AsOk h₀ prog w env (.Tuple elts tk0 tpos) fa) (hf : ∀ p σ Q, fa p σ Q → ∃ ps, p = .tup ps) (hb : XsOk h₀ prog w n env b fb)
    (hs : ∀ x, foldedSetIterable it env x = pure x := by intro _; rfl) :
    ExOk h₀ prog w n env (.For (.Tuple elts tk0 tpos) it b [] pos) (fun σ Q => fi σ fun a H₁ => ∃ xs, a = .lst xs ∧ forW fa fb xs ⟨σ.loc, H₁⟩ Q) := by
  intro A Z loc H s Q Q' E rm S f q
  refine wpAny_For (hi A Z loc H s _ _ _ rm S f fun x a Z₁ H₁ s₁ k₁ va f₁ => ?_) hs
  obtain ⟨xs, rfl, f₁⟩ := f₁
  cases va with
  | lst zl rl =>
  rename_i l vs kl
  have ho := k₁.sat.frz _ _ zl
  have hl : s₁.heap.IsList l vs.toArray := ⟨_, ho, rfl, _, rfl⟩
  refine wpAny_pyIter_list hl ?_
  have hne : l ≠ s₁.heap.objs.size := Nat.ne_of_lt (Heap.lt_size ho)
  have W0 := Walks.list (prog := prog) (w := w) rm.hd s₁.heap.objs.size l hne vs.toArray
  have hn0 : vs.toArray.size = xs.length := by rw [List.size_toArray, rl.length]
  rw [hn0] at W0
  have Wk : Wk prog w A Z₁ xs s₁.heap.objs.size _ _ _ _ := ⟨W0, fun i v hp => rl.get' (by simpa using hp)⟩
  have hI : s₁.heap.get? s₁.heap.objs.size = none := get_size _
  have kp := Kp.push s₁ { cls := .type "list_iterator", data := .fields #[.ref l, .int 0 0] }
  have hst : (s₁.heap.push { cls := .type "list_iterator", data := .fields #[.ref l, .int 0 0] }).IsListIter s₁.heap.objs.size l 0 ∧ (s₁.heap.push { cls := .type "list_iterator", data := .fields #[.ref l, .int 0 0] }).IsList l vs.toArray := ⟨⟨_, Heap.get?_push_size _ rfl, rfl, rfl⟩, hl.at fun o e => Heap.get?_push_of_some _ e⟩
  refine for_core rm S k₁ (fun b hb hne => ?_) Wk kp hst hI (fun i h st => let ⟨o, ho, _⟩ := st.1; ⟨o, ho⟩) rfl ha hb (lo_tup hf fun i h st => ⟨_, _, st.1⟩) f₁ q
  rcases List.mem_cons.mp hb with h | h
  · exact absurd h hne
  · rw [List.mem_singleton.mp h]; exact ⟨_, zl⟩
end
end Mine
end
section
namespace Mine
section
variable {K : Frag} {h₀ : Heap} {prog : Program} {w : World} {n : Nat} {env : Env}
variable {loc : Loc} {Z Z' : Zm} {H H' : LH} {s s' : Shared} {I D C : Addr} {ps : List PV}
end
end Mine
end
section
namespace Mine
end Mine
end
section
namespace Mine
theorem pcn_mid (w M : Nat) (T : List Tk) (j : Nat) (h : j < M) : pcn w M T j = pre (mkF [] (cutA (j * w) T)) ++ flat (cutA w (cutB (j * w) T)) ++ post (mkF [] (cutA ((j + 1) * w) T)) := by
  have h0 : atk w M T j = cutA (j * w) T := if_pos (by (first | lia | omega))
  have h1 : atk w M T (j + 1) = cutA ((j + 1) * w) T := if_pos (by (first | lia | omega))
  have h2 : atk w M T (j + 1) = atk w M T j ++ cutA w (cutB (j * w) T) := by rw [h0, h1, ← cutA_add, Nat.add_mul, Nat.one_mul]
  rw [pcn_eq w M T (cutA w (cutB (j * w) T)) j (cutB ((j + 1) * w) T) h2 (by rw [h1, cut_app]), ← h2, h0, h1]
theorem pcn_last (w M : Nat) (T : List Tk) (hc : mkF [] T = []) : pcn w M T M = pre (mkF [] (cutA (M * w) T)) ++ flat (cutB (M * w) T) := by
  have h0 : atk w M T M = cutA (M * w) T := if_pos (Nat.le_refl _)
  have h1 : atk w M T (M + 1) = T := if_neg (by (first | lia | omega))
  rw [pcn_eq w M T (cutB (M * w) T) M [] (by rw [h0, h1, cut_app]) (by rw [h1, List.append_nil]), h0, cut_app, hc]
  simp [post]
/-- a piece as tokens, and its cells -/
theorem pcn_tok (w M : Nat) (T : List Tk) (hP : PW [] T) (hc : mkF [] T = []) (hM2 : vis T ≤ (M + 1) * w) (j : Nat) (hj : j ≤ M) :
    ∃ A, pcn w M T j = flat A ∧ PW [] A ∧ mkF [] A = [] ∧ cellsOf [] A = ((cellsOf [] T).drop (j * w)).take w := by
  have hT : PW [] (cutA (j * w) T) ∧ PW (mkF [] (cutA (j * w) T)) (cutB (j * w) T) := by rw [← PW_app, cut_app]; exact hP
  have hm := mkF_isMk [] _ hT.1 (.inl rfl)
  have hcl : mkF (mkF [] (cutA (j * w) T)) (cutB (j * w) T) = [] := by rw [← mkF_app, cut_app]; exact hc
  have hcs := cellsOf_cutB [] (j * w) T
  by_cases e : j < M
  · have hB : PW (mkF [] (cutA (j * w) T)) (cutA w (cutB (j * w) T)) := by
      have := hT.2
      rw [← cut_app w (cutB (j * w) T), PW_app] at this
      exact this.1
    obtain ⟨a1, a2, a3, a4⟩ := piece_ok _ _ hm hB
    refine ⟨_, ?_, a1, a2, ?_⟩
    · rw [a3, pcn_mid w M T j e, ← mkF_app, ← cutA_add, Nat.add_mul, Nat.one_mul]
    · rw [a4, cellsOf_cutA, hcs]
  · have e' : j = M := by (first | lia | omega)
    subst e'
    obtain ⟨a1, a2, a3, a4⟩ := piece_ok _ _ hm hT.2
    refine ⟨_, ?_, a1, a2, ?_⟩
    · rw [a3, hcl, pcn_last w j T hc]; simp [post]
    · rw [a4, hcs, List.take_of_length_le]
      rw [List.length_drop, cellsOf_len]
      rw [Nat.add_mul, Nat.one_mul] at hM2; (first | lia | omega)
end Mine
end
section
namespace Mine
section
variable {h₀ : Heap} {prog : Program} {w : World} {n : Nat} {env : Env}
end
end Mine
end
section
namespace Mine
section
variable {h₀ : Heap} {prog : Program} {w : World} {n : Nat} {env : Env}
/-- y = l.pop(0) -/
theorem st_pop0 {y : String} {py apos p pos : Pos} {o e : Expr} {fo fe : ET} {pl : Sem Bool} (ho : EvOk h₀ prog w n env o fo) (he : EvOk h₀ prog w n env e fe) (hk : Stores env y)
    (hm : eval (.Call (.Attribute o (Str.ofString "pop") apos) [e] [] p) env = (do
      let ov ← eval o env
      standAt apos.atName
      let (f, first) ← holding [ov] (getMethod ov (Str.ofString "pop") pl)
      callWith p f first (backTo p (starEach [e] env)) []))
    (hs : starEach [e] env = (false, eval e env) :: starEach [] env) (hw : swapsWith (.Call (.Attribute o (Str.ofString "pop") apos) [e] [] p) (some (.Name (Str.ofString y) py)) pos.line env = pure false) :
    ExOk h₀ prog w n env (.Assign [.Name (Str.ofString y) py] (.Call (.Attribute o (Str.ofString "pop") apos) [e] [] p) pos)
      (fun σ Q => fo σ fun a H₁ => ∃ l z, a = .ref l ∧ H₁ l = some z ∧ fe ⟨σ.loc, H₁⟩ fun b H₂ => b = .int 0 ∧ ∃ x xs, H₂ l = some ⟨true, x :: xs⟩ ∧ xs.length ≤ 100000 ∧ Q .next ⟨σ.loc.set y x, H₂.set l ⟨true, xs⟩⟩) := by
  intro A Z loc H s Q Q' E rm S f q
  refine wpAny_Assign_Name (MethodCall_ (pl := pl) (ho A Z loc H s _ _ _ rm S f fun x a Z₁ H₁ s₁ k₁ va f₁ => ?_) hm) hw
  obtain ⟨l, z, rfl, hz, f₁⟩ := f₁
  cases va with
  | ref _ =>
    obtain ⟨_, vs, k, eo, _⟩ := k₁.sat.obj l z hz
    refine getMethod_builtin ⟨_, eo, rfl⟩ PySem.F.plainAttrs_list PySem.F.slot_list_pop PySem.F.type_list_pop (fun a e => by cases e; exact ⟨_, eo, rfl⟩) ?_
    have hes : EsOk h₀ prog w n env [e] (fun σ Q => fe σ fun a H₁ => Q [a] H₁) := by
      intro A Z loc H s pos Q Q' E rm S f q
      exact (es_cons (fr := fun σ Q => Q [] σ.H) he es_nil hs) A Z loc H s pos Q Q' E rm S f q
    refine callWith_ok (Q := fun ps H₂ => match ps with | [b] => b = .int 0 ∧ ∃ x xs, H₂ l = some ⟨true, x :: xs⟩ ∧ xs.length ≤ 100000 ∧ Q .next ⟨loc.set y x, H₂.set l ⟨true, xs⟩⟩ | _ => False) (kpr_builtin _) hes rm k₁.sat f₁ (fun us ps Z₂ H₂ s₂ k₂ vu f₂ => ?_) hs rfl
    cases vu with
    | nil => exact f₂.elim
    | cons vb r =>
      cases r with
      | cons _ _ => exact f₂.elim
      | nil =>
      obtain ⟨rfl, x, xs, hx, hsz, f₂⟩ := f₂
      obtain ⟨z₂, ws, k', eo₂, rr⟩ := k₂.sat.obj l _ hx
      cases vb with
      | int _ tb =>
      cases rr with
      | cons vx rr =>
      rename_i v ws
      have l1 : ws.length = xs.length := rr.length
      refine call_meets PySem.F.slot_list_pop ⟨_, eo₂, rfl⟩ PySem.F.entry_list_pop (PySem.F.args_list_pop_2 _ _)
        (MeetsSeq.list_pop_at l (v :: ws).toArray k' 0 tb 0 v (by decide) (by simp [seqIndex?]) (by simp) (by rw [List.size_toArray, sizeLine_eq, List.length_cons]; (first | lia | omega))) ⟨eo₂, ?_⟩
      obtain ⟨k3, e'⟩ : ∃ k3, (s₂.heap.update l (Obj.mapSeq fun x => x.eraseIdxIfInBounds 0)).get? l = some { cls := .type "list", data := .seq ws.toArray k3 } := by
        have hh := Heap.get?_update_self (Obj.mapSeq fun x => x.eraseIdxIfInBounds 0) eo₂ rfl
        rw [hh]
        exact ⟨_, by simp only [Obj.mapSeq]; simp; rfl⟩
      have K := Sk.setList (tk := s₂.toks) k₂.sat hx (Heap.SameBut.update ..) e' rr
      exact store_ok K.sat vx hk fun s' k₃ => q _ _ _ _ _ _ (((k₁.trans k₂).sk.trans K).trans k₃) .next f₂
end
end Mine
end
section
namespace Mine
noncomputable def cellP (x : Nat × List Nat) : PV := .tup [.str (mkS [x.1]), .str (mkS x.2)]
theorem tok_nil_flat (m : List Nat) : flat (tok m []) = post m := by cases m <;> rfl
theorem lstOf_ro {H : LH} {p : PV} {xs : List PV} (h : lstOf H p = some xs) : lstOf H.ro p = some xs := by
  cases p with
  | ref a =>
    change ((H a).map fun l => (⟨false, l.xs⟩ : LO)).map (·.xs) = some xs
    change (H a).map (·.xs) = some xs at h
    cases q : H a with
    | none => rw [q] at h; cases h
    | some l => rw [q] at h; exact h
  | _ => exact h
theorem bin_addXL {H : LH} {p : PV} {xs ys : List PV} {Q : PV → LH → Prop} (hp : lstOf H p = some xs) (h0 : xs.length + ys.length ≤ sizeLine) (h : listW (xs ++ ys) H Q) : binW .Add p (.lst ys) H Q := by
  cases p <;> first | exact ⟨xs, ys, hp, rfl, h0, h⟩ | cases hp
theorem ifexp_preG {m : List Nat} {H : LH} {o : Option PV} {R : PV → LH → Prop} (hm : m.length ≤ 1) (e : o = some (.str (mkS m))) (h : R (.str (mkS (pre m))) H) : if (mkS m != mkS []) = true then getW o (fun v => binW .Add (.str (mkS [0])) v H fun v H₂ => R v H₂) else R (.str (mkS [])) H := by
  subst e
  simp only [getW_some]
  exact ifexp_pre hm h
end Mine
end
section
namespace Mine
/-- is a list empty, asked by == [] -/
theorem eq_nil {H : LH} {p : PV} {xs : List PV} {R : Bool → Prop} (hp : lstOf H p = some xs) (hg : Gds H 60 xs) (h : R xs.isEmpty) : cmpW .Eq p (.lst []) H R := by
  obtain ⟨ds, x, y, z⟩ := hg.data
  have hd : Dt H p (.list ds) := by
    cases p with
    | lst ys => cases hp; exact .lst x
    | ref a =>
      change (H a).map (·.xs) = some xs at hp
      cases q : H a with
      | none => rw [q] at hp; cases hp
      | some l => rw [q] at hp; cases hp; exact .ref q x
    | _ => cases hp
  have hs : SeqAt.shaped (.list ds) = true := shaped_of (n := 61) (by decide) (show PyData.canLay0 (.list ds) = true from y) (Nat.succ_le_succ z)
  have hw : ∃ da db, Dt H p da ∧ Dt H (.lst []) db ∧ SeqAt.shaped da = true ∧ SeqAt.shaped db = true ∧ R (PyData.eqv da db) := by
    refine ⟨.list ds, .list [], hd, .lst .nil, hs, by decide, ?_⟩
    cases x with
    | nil => exact h
    | cons _ _ => exact h
  cases p <;> first | exact hw | cases hp
theorem ne_nil {H : LH} {p : PV} {xs : List PV} {R : Bool → Prop} (hp : lstOf H p = some xs) (hg : Gds H 60 xs) (h : R (!xs.isEmpty)) : cmpW .NotEq p (.lst []) H R := eq_nil (R := fun c => R (!c)) hp hg h
/-- an end that is asked for beside the true one -/
theorem cut_XL {H : LH} {p : PV} {xs : List PV} {lo hi : Option Int} {Q : PV → LH → Prop} (hp : lstOf H p = some xs) (hb : xs.length ≤ sizeLine) (h : listW (cut xs lo hi) H Q) : cutW p lo hi H Q := by
  cases p <;> first | exact ⟨xs, hp, hb, h⟩ | cases hp
theorem len_X {H : LH} {p : PV} {xs : List PV} {Q : PV → LH → Prop} (hp : lstOf H p = some xs) (hb : xs.length < 2 ^ 62) (h : Q (.int xs.length) H) : lenOp [p] H Q := by
  refine ⟨_, rfl, ?_⟩
  cases p <;> first | exact ⟨xs, hp, hb, h⟩ | cases hp
theorem cells_gd {H : LH} (r : Cells) (n : Nat) (h : ∀ x ∈ r, x.1 < 128 ∧ ∀ c ∈ x.2, c < 128) : Gds H (n + 1) (r.map cellP) := by
  refine Gds.of fun p hp => ?_
  obtain ⟨x, hx, rfl⟩ := List.mem_map.mp hp
  have := h x hx
  exact .tup (.cons (.str _ (strOk_mk fun c hc => by rw [List.mem_singleton.mp hc]; exact this.1)) (.cons (.str _ (strOk_mk this.2)) (.nil _)))
/-- the cells of a side, as they are asked for -/
noncomputable def cellRow (i : Int) (r : Cells) (wr j : Nat) : PV := .tup [if j = 0 then .int i else .str (mkS [62]), .lst (((r.drop (j * wr)).take wr).map cellP)]
noncomputable def cellsOut (i : Int) (r : Cells) (wr : Nat) : List PV := if r = [] then [.tup [.str (mkS []), .lst ((List.replicate 10 (10, ([] : List Nat))).map cellP)]] else (List.range ((r.length - 1) / wr + 1)).map (cellRow i r wr)
theorem range0 (w V : Nat) (hw : 1 ≤ w) (hV : 0 < V) : rngInts 0 (V : Int) (w : Int) = (List.range ((V - 1) / w + 1)).map fun j => ((j * w : Nat) : Int) := by
  have hsz : (Builtin.Range.rangeSize 0 (V : Int) (w : Int)).toNat = (V - 1) / w + 1 := by
    unfold Builtin.Range.rangeSize
    rw [if_pos (by simp; (first | lia | omega)), if_pos (by (first | lia | omega))]
    have e1 : ((V : Int) - 0 - 1) = ((V - 1 : Nat) : Int) := by (first | lia | omega)
    rw [e1, ← Int.natCast_ediv]
    generalize (V - 1) / w = q
    (first | lia | omega)
  unfold rngInts
  rw [hsz]
  refine List.map_congr_left fun i _ => ?_
  rw [Int.natCast_mul, Int.zero_add]
theorem ofSnl : Str.ofString "\n" = mkS [10] := by decide +kernel
theorem cut_win {α : Type} (xs : List α) (i w : Nat) (hi : i ≤ xs.length) : cut xs (some (i : Int)) (some ((i : Int) + (w : Int))) = (xs.drop i).take w := by
  have e : ((i : Int) + (w : Int)) = ((i + w : Nat) : Int) := rfl
  rw [e]
  unfold cut
  simp only [Option.elim, clip_nat]
  rw [Nat.min_eq_left hi]
  by_cases h : i + w ≤ xs.length
  · rw [Nat.min_eq_left h, Nat.add_sub_cancel_left]
  · rw [Nat.min_eq_right (by (first | lia | omega)), List.take_of_length_le (by rw [List.length_drop]; (first | lia | omega)), List.take_of_length_le (by rw [List.length_drop]; (first | lia | omega))]
end Mine
end
section
namespace Mine
section
variable {M : Model} {A : Around} {R : GenEnd} {Y : Protocol} {n : Nat} {s₀ : Shared} {c : Code} {fs : List Frame} {s : Shared} {env : Env}
  {K : Flow → Sem Fin} {Hx : Value → Sem Fin} {gd : Bool → Bool} {lv : List Value → List Value}
theorem seg_exec {st : Stmt} (h : wpAny M (A.over c fs) (exec st env) (fun f s' => Seg M A R Y n s₀ c (K f) fs s') (fun _ _ => False) s) :
    Seg M A R Y n s₀ c ((exec st env).wrap K Hx gd lv) fs s := seg_wrap (wpAny_mono h (fun _ _ x => x) fun _ _ x => x.elim)
theorem seg_If {test : Expr} {body orelse : List Stmt} {pos : Pos}
    (h : wpAny M (A.over c fs) (isTrue test env (eval test env)) (fun b s' => if b = true then Seg M A R Y n s₀ c ((execs body env).wrap K Hx gd lv) fs s' else Seg M A R Y n s₀ c ((execs orelse env).wrap K Hx gd lv) fs s') (fun _ _ => False) s) :
    Seg M A R Y n s₀ c ((exec (.If test body orelse pos) env).wrap K Hx gd lv) fs s := by
  rw [exec_If]
  show Seg M A R Y n s₀ c (.at pos fun _ => (isTrue test env (eval test env) >>= fun b => if b then execs body env else execs orelse env).wrap K Hx gd lv) fs s
  refine seg_at ?_
  rw [Sem.bind_eq_wrap', Sem.wrap_wrap]
  refine seg_wrap (wpAny_mono h (fun b s' h' => ?_) fun _ _ x => x.elim)
  cases b <;> exact h'
/-- what stands behind a loop's own code -/
abbrev ownK (K : Flow → Sem Fin) (Hx : Value → Sem Fin) (gd : Bool → Bool) (lv : List Value → List Value) (env : Env) : Result → Sem Fin :=
  fun r => ((match r with | .ok f => (.pure f : Sem Flow) | .error e => .raise e).onRaise fun (x : Value) => do
        if (← field x 1) == Value.none then unsupported "frame.own-activation:exception-without-traceback"
        setFlight x env.frame).wrap K Hx gd lv
theorem seg_For {t it : Expr} {body orelse : List Stmt} {pos : Pos}
    (h : wpAny M (A.over c fs) (eval it env) (fun x s₁ => wpAny M (A.over c fs) (pyIter x) (fun i s₂ =>
      ∀ p, Seg M A R Y n s₀ (.forLoop t i body orelse env) (M.den (.forLoop t i body orelse env)) (.ret (ownK K Hx gd lv env) none (gd false) (lv []) c p [] :: fs) s₂) (fun _ _ => False) s₁) (fun _ _ => False) s)
    (hs : ∀ x, foldedSetIterable it env x = pure x) :
    Seg M A R Y n s₀ c ((exec (.For t it body orelse pos) env).wrap K Hx gd lv) fs s := by
  rw [exec_For]
  show Seg M A R Y n s₀ c (.at pos fun _ => (eval it env >>= fun t₁ => foldedSetIterable it env t₁ >>= fun x => standAt it.pos >>= fun _ => holding [x] (pyIter x) >>= fun i => runOwn (.forLoop t i body orelse env) env).wrap K Hx gd lv) fs s
  refine seg_at ?_
  rw [Sem.bind_eq_wrap', Sem.wrap_wrap]
  refine seg_wrap (wpAny_mono h (fun x s₁ h₁ => ?_) fun _ _ x => x.elim)
  show Seg M A R Y n s₀ c ((foldedSetIterable it env x >>= fun x => standAt it.pos >>= fun _ => holding [x] (pyIter x) >>= fun i => runOwn (.forLoop t i body orelse env) env).wrap K Hx gd lv) fs s₁
  rw [hs x]
  show Seg M A R Y n s₀ c (.at it.pos fun _ => (holding [x] (pyIter x) >>= fun i => runOwn (.forLoop t i body orelse env) env).wrap K Hx gd lv) fs s₁
  refine seg_at ?_
  rw [Sem.bind_eq_wrap', Sem.wrap_wrap]
  refine seg_wrap (wpAny_holding (wpAny_mono h₁ (fun i s₂ h₂ => ?_) fun _ _ x => x.elim))
  exact seg_call h₂
end
/-- a loop's end, seen from its turn -/
abbrev loopH (env : Env) : Value → Sem Fin := fun e => (do noteFrame e env; theTreesLotGoes e : Sem Unit).wrap (fun _ => .raise e) .raise id id
abbrev loopK (c : Code) : Flow → Sem Fin := fun f => match f with
  | .next | .cont => .pure (.again c)
  | .brk => .pure (.done .next)
  | .ret v => .pure (.done (.ret v))
section
variable {prog : Program} {w : World} {A : Around} {R : GenEnd} {Y : Protocol} {n : Nat} {s₀ : Shared} {fs : List Frame} {s : Shared} {env : Env}
theorem seg_block {c : Code} {k g l p} (h : Seg (model prog w) A R Y n s₀ c (k (.ok .next)) fs s) : Seg (model prog w) A R Y n s₀ (.block [] env) ((model prog w).den (.block [] env)) (.ret k none g l c p [] :: fs) s :=
  seg_leaf (.ok .next) h
theorem seg_forLoop {t : Expr} {it : Value} {body orelse : List Stmt}
    (h : wpAny (model prog w) (A.over (.forLoop t it body orelse env) fs) (pyNext it) (fun r s₁ => match r with
      | none => Seg (model prog w) A R Y n s₀ (.forLoop t it body orelse env) (.pure (.again (.block orelse env))) fs s₁
      | some v => wpAny (model prog w) (A.over (.forLoop t it body orelse env) fs) (letOwnedTupleGo t it v) (fun _ s₂ => wpAny (model prog w) (A.over (.forLoop t it body orelse env) fs) (assign t env v) (fun _ s₃ =>
          Seg (model prog w) A R Y n s₀ (.forLoop t it body orelse env) ((execs body env).wrap (loopK (.forLoop t it body orelse env)) (loopH env) id id) fs s₃) (fun _ _ => False) s₂) (fun _ _ => False) s₁) (fun _ _ => False) s) :
    Seg (model prog w) A R Y n s₀ (.forLoop t it body orelse env) ((model prog w).den (.forLoop t it body orelse env)) fs s := by
  show Seg _ A R Y n s₀ _ ((forTurn t it body orelse env).onRaise (fun x => do noteFrame x env; theTreesLotGoes x)) fs s
  rw [Sem.onRaise_eq_wrap]
  show Seg _ A R Y n s₀ _ (.at t.pos fun _ => ((pyNext it).onRaise (fun _ => standAt { t.pos with line := 0 }) >>= fun r => match r with
    | none => again (.block orelse env)
    | some v => letOwnedTupleGo t it v >>= fun _ => assign t env v >>= fun _ => execs body env >>= fun f => match f with
      | .next | .cont => again (.forLoop t it body orelse env)
      | .brk => pure (.done .next)
      | .ret v => pure (.done (.ret v))).wrap _ _ _ _) fs s
  refine seg_at ?_
  rw [Sem.bind_eq_wrap', Sem.wrap_wrap, Sem.onRaise_eq_wrap, Sem.wrap_wrap]
  refine seg_wrap (wpAny_mono h (fun r s₁ h₁ => ?_) fun _ _ x => x.elim)
  cases r with
  | none => exact h₁
  | some v =>
    show Seg _ A R Y n s₀ _ ((letOwnedTupleGo t it v >>= fun _ => assign t env v >>= fun _ => execs body env >>= fun f => match f with
      | .next | .cont => again (.forLoop t it body orelse env)
      | .brk => pure (.done .next)
      | .ret v => pure (.done (.ret v))).wrap _ _ _ _) fs s₁
    rw [Sem.bind_eq_wrap', Sem.wrap_wrap]
    refine seg_wrap (wpAny_mono h₁ (fun _ s₂ h₂ => ?_) fun _ _ x => x.elim)
    show Seg _ A R Y n s₀ _ ((assign t env v >>= fun _ => execs body env >>= fun f => match f with
      | .next | .cont => again (.forLoop t it body orelse env)
      | .brk => pure (.done .next)
      | .ret v => pure (.done (.ret v))).wrap _ _ _ _) fs s₂
    rw [Sem.bind_eq_wrap', Sem.wrap_wrap]
    refine seg_wrap (wpAny_mono h₂ (fun _ s₃ h₃ => ?_) fun _ _ x => x.elim)
    show Seg _ A R Y n s₀ _ ((execs body env >>= fun f => match f with
      | .next | .cont => again (.forLoop t it body orelse env)
      | .brk => pure (.done .next)
      | .ret v => pure (.done (.ret v))).wrap _ _ _ _) fs s₃
    rw [Sem.bind_eq_wrap', Sem.wrap_wrap]
    rw [Sem.wrap_congr (execs body env) _ _ (K' := loopK (.forLoop t it body orelse env)) (H' := loopH env) (fun f => by cases f <;> rfl) (fun e => by
      show (do noteFrame e env; theTreesLotGoes e : Sem Unit).bind (fun _ => .raise e) = _; rw [Sem.bind_eq_wrap])]
    exact h₃
end
end Mine
end
section
namespace Mine
/-- a tuple, as it lies in a heap -/
noncomputable def TupObj (o : Obj) : Prop := ∃ vs n, o = { cls := .type "tuple", data := .seq vs n }
open Classical in
/-- the tuples of a heap -/
noncomputable def Zt (h : Heap) : Zm := fun a => (h.get? a).bind fun o => if TupObj o then some o else none
theorem Zt.of {h : Heap} {a : Addr} {o : Obj} (e : h.get? a = some o) (t : TupObj o) : Zt h a = some o := by unfold Zt; rw [e]; exact if_pos t
theorem Zt.get {h : Heap} {a : Addr} {o : Obj} (e : Zt h a = some o) : h.get? a = some o ∧ TupObj o := by
  unfold Zt at e
  cases q : h.get? a with
  | none => rw [q] at e; cases e
  | some o' =>
    rw [q] at e
    by_cases t : TupObj o'
    · rw [Option.bind_some, if_pos t] at e; cases e; exact ⟨rfl, t⟩
    · rw [Option.bind_some, if_neg t] at e; cases e
set_option genSizeOf false in
set_option genInjectivity false in
mutual
/-- values made of tuples, texts, numbers alone -/
inductive TO : PV → Prop
  | none : TO .none
  | bool (b : Bool) : TO (.bool b)
  | int (i : Int) : TO (.int i)
  | str (x : Str) : TO (.str x)
  | tup {xs : List PV} : TOs xs → TO (.tup xs)
inductive TOs : List PV → Prop
  | nil : TOs []
  | cons {x : PV} {xs : List PV} : TO x → TOs xs → TOs (x :: xs)
end
mutual
theorem VR.zt {Z : Zm} {h : Heap} (hz : ∀ a o, Z a = some o → h.get? a = some o) : ∀ {p : PV} {v : Value}, TO p → VR Z p v → VR (Zt h) p v
  | _, _, .none, .none => .none
  | _, _, .bool _, .bool b => .bool b
  | _, _, .int _, .int i t => .int i t
  | _, _, .str _, .str x t => .str x t
  | _, _, .tup ts, .tup e r => .tup (Zt.of (hz _ _ e) ⟨_, _, rfl⟩) (VRs.zt hz ts r)
theorem VRs.zt {Z : Zm} {h : Heap} (hz : ∀ a o, Z a = some o → h.get? a = some o) : ∀ {ps : List PV} {vs : List Value}, TOs ps → VRs Z ps vs → VRs (Zt h) ps vs
  | _, _, .nil, .nil => .nil
  | _, _, .cons t ts, .cons a r => .cons (VR.zt hz t a) (VRs.zt hz ts r)
end
section
variable (g₀ : Heap) (tot : List PV) (Fo : List Addr)
/-- what others keep of a heap: their own things and all tuples stay -/
noncomputable def Kt (s s' : Shared) : Prop := ∀ b o, s.heap.get? b = some o → (b ∈ Fo ∨ TupObj o) → s'.heap.get? b = some o
theorem Kt.zt {Fo : List Addr} {s s' : Shared} (k : Kt Fo s s') : Zle (Zt s.heap) (Zt s'.heap) := fun a o e => by
  obtain ⟨e', t⟩ := Zt.get e
  exact Zt.of (k a o e' (.inr t)) t
noncomputable def Og (s : Shared) : Prop := ∀ b o, g₀.get? b = some o → s.heap.get? b = some o
noncomputable def Sh (s s' : Shared) : Prop := ∃ h tk, s' = { s with heap := h, toks := tk }
/-- what the one who asks may do in between -/
noncomputable def Rl (s s' : Shared) : Prop := (∀ b o, b ∉ Fo → s.heap.get? b = some o → s'.heap.get? b = some o) ∧ ∀ b ∈ Fo, ∃ o, s'.heap.get? b = some o
/-- a yield: m more are to come -/
noncomputable def GY : Protocol := fun m s₀ v s₁ kap => ∃ p, tot[tot.length - (m + 1)]? = some p ∧ VR (Zt s₁.heap) p v ∧ Kt Fo s₀ s₁ ∧ Og g₀ s₁ ∧ Sh s₀ s₁ ∧ ∀ s'', Rl Fo s₁ s'' → kap (.send .none) s''
noncomputable def GP (n : Nat) (s₀ s₁ : Shared) : Prop := n = 0 ∧ Kt Fo s₀ s₁ ∧ Og g₀ s₁ ∧ Sh s₀ s₁
noncomputable def GR : GenEnd := fun n s₀ r s₁ => r = .ok (.ret .none) ∧ GP g₀ Fo n s₀ s₁
/-- the heap bears the generator's plain state -/
structure GS (env : Env) (Z : Zm) (loc : Loc) (H : LH) (s₀ s : Shared) : Prop where
  sat : Sat g₀ Z env loc H s.heap
  kt : Kt Fo s₀ s
  sh : Sh s₀ s
  fo : ∀ b ∈ Fo, Z b = none ∧ H b = none ∧ b ≠ env.locals ∧ (∀ m, (m, b) ∉ env.cells) ∧ ∃ o, s.heap.get? b = some o
/-- what a statement of the generator's leaves, yields and all -/
structure Gk (env : Env) (Z : Zm) (H : LH) (s : Shared) (Z' : Zm) (H' : LH) (s' : Shared) : Prop where
  frm : ∀ b o, s.heap.get? b = some o → b ∉ Fo → b ≠ env.locals → (∀ n, (n, b) ∉ env.cells) → (∀ xs, H b ≠ some ⟨true, xs⟩) → s'.heap.get? b = some o
  live : ∀ b o, s.heap.get? b = some o → ∃ o', s'.heap.get? b = some o'
  fz : Fresh s Z Z'
  fh : ∀ a l', H' a = some l' → (∃ l, H a = some l ∧ (l'.mu = true → l.mu = true)) ∨ s.heap.get? a = none
end
section
variable {g₀ : Heap} {tot : List PV} {Fo : List Addr} {env : Env} {Z Z₁ Z₂ : Zm} {loc loc₁ : Loc} {H H₁ H₂ : LH} {s₀ s s₁ s₂ : Shared}
theorem Gk.refl : Gk Fo env Z H s Z H s := ⟨fun _ _ e _ _ _ _ => e, fun _ o e => ⟨o, e⟩, Fresh.refl s Z, fun _ l e => .inl ⟨l, e, id⟩⟩
theorem Gk.of (k : Sk g₀ env loc Z H s loc₁ Z₁ H₁ s₁) : Gk Fo env Z H s Z₁ H₁ s₁ := ⟨fun b o e _ h1 h2 h3 => k.frm b o e h1 h2 h3, k.live, k.fz, k.fh⟩
theorem Gk.trans (a : Gk Fo env Z H s Z₁ H₁ s₁) (b : Gk Fo env Z₁ H₁ s₁ Z₂ H₂ s₂) : Gk Fo env Z H s Z₂ H₂ s₂ where
  frm := fun x o e h0 h1 h2 h3 => b.frm x o (a.frm x o e h0 h1 h2 h3) h0 h1 h2 fun xs hx => by
    rcases a.fh x _ hx with ⟨l, hl, hm⟩ | hn
    · cases l with | mk mu ys => have := hm rfl; simp only at this; subst this; exact h3 ys hl
    · rw [hn] at e; cases e
  live := fun x o e => let ⟨o', e'⟩ := a.live x o e; b.live x o' e'
  fz := ⟨a.fz.1.trans b.fz.1, fun x h h' => by
    cases q : Z₁ x with
    | none =>
      have := b.fz.2 x q h'
      cases r : s.heap.get? x with
      | none => rfl
      | some o => obtain ⟨o', e'⟩ := a.live x o r; rw [this] at e'; cases e'
    | some o => exact a.fz.2 x h (by rw [q]; exact Option.some_ne_none o)⟩
  fh := fun x l' e => by
    rcases b.fh x l' e with ⟨l, hl, hm⟩ | hn
    · rcases a.fh x l hl with ⟨l₀, hl₀, hm₀⟩ | hn
      · exact .inl ⟨l₀, hl₀, fun h => hm₀ (hm h)⟩
      · exact .inr hn
    · refine .inr ?_
      cases r : s.heap.get? x with
      | none => rfl
      | some o => obtain ⟨o', e'⟩ := a.live x o r; rw [hn] at e'; cases e'
theorem Gk.noZ {I : Addr} {o : Obj} (K : Gk Fo env Z H s Z₁ H₁ s₁) (e : s.heap.get? I = some o) (hZ : Z I = none) : Z₁ I = none := by
  cases q : Z₁ I with
  | none => rfl
  | some o' => have := K.fz.2 I hZ (by rw [q]; exact Option.some_ne_none _); rw [e] at this; cases this
theorem Gk.noH {I : Addr} {o : Obj} (K : Gk Fo env Z H s Z₁ H₁ s₁) (e : s.heap.get? I = some o) (hH : H I = none) : H₁ I = none := by
  cases q : H₁ I with
  | none => rfl
  | some l =>
    rcases K.fh I l q with ⟨l', hl, _⟩ | hn
    · rw [hH] at hl; cases hl
    · rw [e] at hn; cases hn
theorem Gk.rel (k : Rl Fo s s₁) : Gk Fo env Z H s Z H s₁ := ⟨fun b o e h0 _ _ _ => k.1 b o h0 e, fun b o e => by
  by_cases hb : b ∈ Fo
  · exact k.2 b hb
  · exact ⟨o, k.1 b o hb e⟩, Fresh.refl s Z, fun _ l e => .inl ⟨l, e, id⟩⟩
theorem GS.og (S : GS g₀ Fo env Z loc H s₀ s) : Og g₀ s := fun b o e => S.sat.frz b o (S.sat.base b o e)
theorem GS.step (S : GS g₀ Fo env Z loc H s₀ s) (k : Sk g₀ env loc Z H s loc₁ Z₁ H₁ s₁) : GS g₀ Fo env Z₁ loc₁ H₁ s₀ s₁ where
  sat := k.sat
  kt := fun b o e h => by
    have e1 := S.kt b o e h
    rcases h with h | ⟨vs, n, rfl⟩
    · obtain ⟨z, hh, l, c, _⟩ := S.fo b h
      exact k.frm b o e1 l c fun xs hx => by rw [hh] at hx; cases hx
    · refine k.frm b _ e1 (fun h => ?_) (fun m hm => ?_) fun xs hx => ?_
      · obtain ⟨_, a, _⟩ := S.sat.ns
        obtain ⟨o, _, _, e2, d, _⟩ := a
        rw [← h, e1] at e2; cases e2; cases d
      · obtain ⟨_, _, o, e2, d⟩ := S.sat.cellZ m b hm
        rw [e1] at e2; cases e2; cases d
      · obtain ⟨_, _, _, e2, _⟩ := S.sat.obj b _ hx
        rw [e1] at e2
        exact absurd (Value.type.inj (congrArg Obj.cls (Option.some.inj e2))) (by decide)
  sh := by
    obtain ⟨h, t, rfl⟩ := S.sh
    obtain ⟨h', t', rfl⟩ := k.sh
    exact ⟨h', t', rfl⟩
  fo := fun b hb => by
    obtain ⟨z, hh, l, c, o, e⟩ := S.fo b hb
    exact ⟨k.noZ e z, k.noH e hh, l, c, k.live b o e⟩
theorem Sat.butF (S : Sat g₀ Z env loc H s.heap) (fo : ∀ b ∈ Fo, Z b = none ∧ H b = none ∧ b ≠ env.locals ∧ (∀ m, (m, b) ∉ env.cells)) (k : ∀ b o, b ∉ Fo → s.heap.get? b = some o → s₁.heap.get? b = some o) : Sat g₀ Z env loc H s₁.heap := by
  have nC : ∀ m c, (m, c) ∈ env.cells → c ∉ Fo := fun m c hm h => (fo c h).2.2.2 m hm
  refine ⟨S.base, fun a o e => k a o (fun h => by rw [(fo a h).1] at e; cases e) (S.frz a o e), S.nsZ, ?_, S.cellN, S.kind, ?_, fun a l e => ?_⟩
  · intro m x hm
    obtain ⟨z, w', o, e, d⟩ := S.cellZ m x hm
    exact ⟨z, w', o, k x o (nC m x hm) e, d⟩
  · obtain ⟨m, hm, hl⟩ := S.ns
    refine ⟨m, hm.at' fun o e => k _ o (fun h => (fo _ h).2.2.1 rfl) e, fun y p e => ?_⟩
    cases hl y p e with
    | loc v a b c => exact .loc v a b c
    | cell x v a b d g =>
      obtain ⟨o, eo, d'⟩ := d
      exact .cell x v a b ⟨o, k x o (nC _ x (mem_of_lookup b)) eo, d'⟩ g
  · obtain ⟨z, vs, j, e', r⟩ := S.obj a l e
    exact ⟨z, vs, j, k a _ (fun h => by rw [(fo a h).2.1] at e; cases e) e', r⟩
theorem GS.rel (S : GS g₀ Fo env Z loc H s₀ s) (k : Rl Fo s s₁) : GS g₀ Fo env Z loc H s₁ s₁ where
  sat := S.sat.butF (fun b hb => let ⟨a, b, c, d, _⟩ := S.fo b hb; ⟨a, b, c, d⟩) k.1
  kt := fun _ _ e _ => e
  sh := ⟨_, _, rfl⟩
  fo := fun b hb => let ⟨a, b', c, d, _⟩ := S.fo b hb; ⟨a, b', c, d, k.2 b hb⟩
end
end Mine
end
section
namespace Mine
structure GA (n : Nat) (A : Around) (c : Code) (fs : List Frame) : Prop where
  rm : Rm n (A.over c fs)
  sp : splitAtGen fs = none
  ng : fs.any Frame.guarded = false
theorem GA.push {n : Nat} {A : Around} {c c' : Code} {fs : List Frame} {k : Result → Sem Fin} {l : List Value} {p : Pos} (g : GA n A c fs) (hw : c'.weight = 0) (hu : c'.cUnits = 0) : GA n A c' (.ret k none false l c p [] :: fs) where
  rm := by
    refine ⟨g.rm.hd, ?_, ?_⟩
    · have h := g.rm.dp
      unfold Around.over at h ⊢
      simp only [List.map_cons, Frame.where_, frameCount_cons, hw] at h ⊢
      (first | lia | omega)
    · have h := g.rm.un
      unfold Around.over at h ⊢
      simp only [List.map_cons, Frame.where_, unitsOf_cons, hu] at h ⊢
      (first | lia | omega)
  sp := by show (splitAtGen fs).map _ = none; rw [g.sp]; rfl
  ng := by show (false || fs.any Frame.guarded) = false; rw [g.ng]; rfl
abbrev XG := St → List PV → (Fl → St → List PV → Prop) → Prop
noncomputable def Suf (tot ys : List PV) : Prop := ∃ pre, tot = pre ++ ys
theorem Suf.head {tot ys : List PV} {p : PV} (h : Suf tot (p :: ys)) : tot[tot.length - (ys.length + 1)]? = some p ∧ Suf tot ys := by
  obtain ⟨pre, rfl⟩ := h
  refine ⟨?_, pre ++ [p], by simp⟩
  rw [List.length_append, List.length_cons, Nat.add_sub_cancel, List.getElem?_append_right (Nat.le_refl _), Nat.sub_self]; rfl
section
variable (g₀ : Heap) (tot : List PV) (Fo : List Addr) (prog : Program) (w : World) (n : Nat) (env : Env)
/-- what stands behind a statement of the generator's -/
noncomputable def GqOk (A : Around) (c : Code) (fs : List Frame) (Z : Zm) (H : LH) (s : Shared) (Q : Fl → St → List PV → Prop) (K : Flow → Sem Fin) : Prop :=
  ∀ fl p loc' Z' H' s₀' s' ys', GS g₀ Fo env Z' loc' H' s₀' s' → Gk Fo env Z H s Z' H' s' → Suf tot ys' → FlR Z' p fl → Q p ⟨loc', H'⟩ ys' → Seg (model prog w) A (GR g₀ Fo) (GY g₀ tot Fo) ys'.length s₀' c (K fl) fs s'
noncomputable def GtOk (t : Env → Sem Flow) (F : XG) : Prop :=
  ∀ (A : Around) (c : Code) (fs : List Frame) (Z : Zm) (loc : Loc) (H : LH) (s₀ s : Shared) (Q : Fl → St → List PV → Prop) (ys : List PV) (K : Flow → Sem Fin) (Hx : Value → Sem Fin) (gd : Bool → Bool) (lv : List Value → List Value),
    GA n A c fs → gd false = false → GS g₀ Fo env Z loc H s₀ s → Suf tot ys → F ⟨loc, H⟩ ys Q → GqOk g₀ tot Fo prog w env A c fs Z H s Q K →
    Seg (model prog w) A (GR g₀ Fo) (GY g₀ tot Fo) ys.length s₀ c ((t env).wrap K Hx gd lv) fs s
/-- a statement of the generator's; ys: what is to be yielded yet -/
abbrev GxOk (st : Stmt) (F : XG) : Prop := GtOk g₀ tot Fo prog w n env (exec st) F
abbrev GxsOk (sts : List Stmt) (F : XG) : Prop := GtOk g₀ tot Fo prog w n env (execs sts) F
end
section
variable {g₀ : Heap} {tot : List PV} {Fo : List Addr} {prog : Program} {w : World} {n : Nat} {env : Env}
theorem GqOk.after {A : Around} {c : Code} {fs : List Frame} {Z Z₁ : Zm} {H H₁ : LH} {s s₁ : Shared} {Q : Fl → St → List PV → Prop} {K : Flow → Sem Fin} (q : GqOk g₀ tot Fo prog w env A c fs Z H s Q K) (k : Gk Fo env Z H s Z₁ H₁ s₁) :
    GqOk g₀ tot Fo prog w env A c fs Z₁ H₁ s₁ Q K := fun fl p loc' Z' H' s₀' s' ys' S k' su v f => q fl p loc' Z' H' s₀' s' ys' S (k.trans k') su v f
theorem gx_lift {st : Stmt} {f : XT} (h : ExOk g₀ prog w n env st f) : GxOk g₀ tot Fo prog w n env st (fun σ ys Q => f σ fun fl σ' => Q fl σ' ys) := by
  intro A c fs Z loc H s₀ s Q ys K Hx gd lv ga hg S su hf q
  exact seg_exec (h _ Z loc H s _ _ _ ga.rm S.sat hf fun fl p loc' Z' H' s' k v f' => q _ _ _ _ _ _ _ _ (S.step k) (Gk.of k) su v f')
theorem gxs_nil : GxsOk g₀ tot Fo prog w n env [] (fun σ ys Q => Q .next σ ys) := fun _ _ _ _ _ _ _ _ _ _ _ _ _ _ _ _ S su f q => seg_execs_nil (q _ _ _ _ _ _ _ _ S Gk.refl su .next f)
noncomputable def seqG (fs fr : XG) : XG := fun σ ys Q => fs σ ys fun fl σ₁ ys₁ => match fl with | .next => fr σ₁ ys₁ Q | fl => Q fl σ₁ ys₁
theorem gxs_cons {st : Stmt} {rest : List Stmt} {fs fr : XG} (hs : GxOk g₀ tot Fo prog w n env st fs) (hr : GxsOk g₀ tot Fo prog w n env rest fr) : GxsOk g₀ tot Fo prog w n env (st :: rest) (seqG fs fr) := by
  intro A c fs Z loc H s₀ s Q ys K Hx gd lv ga hg S su hf q
  refine seg_execs_cons (hs A c fs Z loc H s₀ s _ ys _ Hx gd lv ga hg S su hf fun fl p loc' Z' H' s₀' s' ys' S' k' su' v f' => ?_)
  cases v with
  | next => exact hr A c fs Z' loc' H' s₀' s' Q ys' K Hx gd lv ga hg S' su' f' (q.after k')
  | brk => exact q _ _ _ _ _ _ _ _ S' k' su' .brk f'
  | cont => exact q _ _ _ _ _ _ _ _ S' k' su' .cont f'
  | ret v => exact q _ _ _ _ _ _ _ _ S' k' su' (.ret v) f'
theorem gx_if {t : Expr} {b o : List Stmt} {pos : Pos} {ft : BT} {fb fo : XG} (ht : BtOk g₀ prog w n env t ft) (hb : GxsOk g₀ tot Fo prog w n env b fb) (ho : GxsOk g₀ tot Fo prog w n env o fo) :
    GxOk g₀ tot Fo prog w n env (.If t b o pos) (fun σ ys Q => ft σ fun c H₁ => if c then fb ⟨σ.loc, H₁⟩ ys Q else fo ⟨σ.loc, H₁⟩ ys Q) := by
  intro A c fs Z loc H s₀ s Q ys K Hx gd lv ga hg S su hf q
  refine seg_If (ht _ Z loc H s _ _ _ ga.rm S.sat hf fun c Z₁ H₁ s₁ k₁ f₁ => ?_)
  cases c with
  | true => exact hb _ _ _ Z₁ loc H₁ s₀ s₁ Q ys K Hx gd lv ga hg (S.step k₁.sk) su f₁ (q.after (Gk.of k₁.sk))
  | false => exact ho _ _ _ Z₁ loc H₁ s₀ s₁ Q ys K Hx gd lv ga hg (S.step k₁.sk) su f₁ (q.after (Gk.of k₁.sk))
theorem gx_yield {e : Expr} {ypos pos : Pos} {fe : ET} (he : EvOk g₀ prog w n env e fe) (hco : env.scope.isCoroutine = false) (hi : interactive env = false) :
    GxOk g₀ tot Fo prog w n env (.Expr (.Yield (some e) ypos) pos) (fun σ ys Q => ∃ p₀ ys', ys = p₀ :: ys' ∧ TO p₀ ∧ fe σ fun p H₁ => p = p₀ ∧ Q .next ⟨σ.loc, H₁⟩ ys') := by
  intro A c fs Z loc H s₀ s Q ys K Hx gd lv ga hg S su hf q
  obtain ⟨p₀, ys', rfl, to, hf⟩ := hf
  refine seg_Expr_Yield ga.sp hg ga.ng (he _ Z loc H s _ _ _ ga.rm S.sat hf fun v p Z₁ H₁ s₁ k₁ vr f₁ => ?_) hco hi
  obtain ⟨rfl, f₁⟩ := f₁
  intro kap hk
  have S₁ := S.step k₁.sk
  refine ⟨p, su.head.1, vr.zt S₁.sat.frz to, S₁.kt, S₁.og, S₁.sh, fun s'' r => hk .none s'' ?_⟩
  exact q .next .next loc Z₁ H₁ s'' s'' ys' (S₁.rel r) ((Gk.of k₁.sk).trans (Gk.rel r)) su.head.2 .next f₁
end
end Mine
end
section
namespace Mine
section
variable {g₀ : Heap} {tot : List PV} {Fo : List Addr} {prog : Program} {w : World} {n : Nat} {env : Env}
/-- while, k turns at most -/
noncomputable def whileG (ft : BT) (fb : XG) : Nat → XG
  | 0, _, _, _ => False
  | k + 1, σ, ys, Q => ft σ fun c H₁ => if c then fb ⟨σ.loc, H₁⟩ ys fun fl σ' ys' => match fl with
      | .next => whileG ft fb k σ' ys' Q
      | .cont => whileG ft fb k σ' ys' Q
      | .brk => Q .next σ' ys'
      | .ret p => Q (.ret p) σ' ys'
    else Q .next ⟨σ.loc, H₁⟩ ys
/-- a loop's turn ends -/
theorem turn_end {A : Around} {c c' : Code} {fs : List Frame} {k : Result → Sem Fin} {l : List Value} {p : Pos} {s₀ s : Shared} {R : GenEnd} {Y : Protocol} {m : Nat} (f : Flow) (h : Seg (model prog w) A R Y m s₀ c (k (.ok f)) fs s) :
    Seg (model prog w) A R Y m s₀ c' (.pure (.done f)) (.ret k none false l c p [] :: fs) s := seg_leaf (.ok f) h
theorem gx_while {t : Expr} {b : List Stmt} {pos : Pos} {ft : BT} {fb : XG} (ht : BtOk g₀ prog w n env t ft) (hb : GxsOk g₀ tot Fo prog w n env b fb) :
    GxOk g₀ tot Fo prog w n env (.While t b [] pos) (fun σ ys Q => ∃ k, whileG ft fb k σ ys Q) := by
  intro A c fs Z loc H s₀ s Q ys K Hx gd lv ga hg S su hf q
  obtain ⟨k, hf⟩ := hf
  refine seg_While fun p => ?_
  rw [hg]
  have ga' : GA n A (.whileLoop t b [] env) (.ret (ownK K Hx gd lv env) none false (lv []) c p [] :: fs) := ga.push rfl rfl
  clear ga
  have q' := q
  clear q
  revert Z loc H s₀ s ys
  induction k with
  | zero => intro Z loc H s₀ s ys S su hf; exact hf.elim
  | succ k ih =>
    intro Z loc H s₀ s ys S su hf q
    refine seg_whileLoop (ht _ Z loc H s _ _ _ ga'.rm S.sat hf fun cb Z₁ H₁ s₁ k₁ f₁ => ?_)
    have S₁ := S.step k₁.sk
    have q₁ := q.after (Gk.of k₁.sk)
    cases cb with
    | false => exact turn_end .next (q₁ .next .next loc Z₁ H₁ s₀ s₁ ys S₁ Gk.refl su .next f₁)
    | true =>
      refine hb A _ _ Z₁ loc H₁ s₀ s₁ _ ys _ _ id id ga' rfl S₁ su f₁ fun fl p' loc' Z' H' s₀' s' ys' S' k' su' v f' => ?_
      cases v with
      | next => exact seg_again rfl (ih Z' loc' H' s₀' s' ys' S' su' f' (q₁.after k'))
      | cont => exact seg_again rfl (ih Z' loc' H' s₀' s' ys' S' su' f' (q₁.after k'))
      | brk => exact turn_end .next (q₁ .next .next loc' Z' H' s₀' s' ys' S' k' su' .next f')
      | ret v => exact turn_end (.ret _) (q₁ _ _ loc' Z' H' s₀' s' ys' S' k' su' (.ret v) f')
/-- for, over a list -/
noncomputable def forG (fa : PV → St → (St → Prop) → Prop) (fb : XG) : List PV → XG
  | [], σ, ys, Q => Q .next σ ys
  | p :: r, σ, ys, Q => fa p σ fun σ₁ => fb σ₁ ys fun fl σ' ys' => match fl with
      | .next => forG fa fb r σ' ys' Q
      | .cont => forG fa fb r σ' ys' Q
      | .brk => Q .next σ' ys'
      | .ret p => Q (.ret p) σ' ys'
theorem Gk.iter {Z₁ Z : Zm} {H₁ H : LH} {s₁ s : Shared} {I : Addr} {h' : Heap} {tk : Nat} (K : Gk Fo env Z₁ H₁ s₁ Z H s) (hI : s₁.heap.get? I = none) (hk : ∀ b o, b ≠ I → s.heap.get? b = some o → h'.get? b = some o) : Gk Fo env Z₁ H₁ s₁ Z H { s with heap := h', toks := tk } := by
  have ne : ∀ b o, s₁.heap.get? b = some o → b ≠ I := fun b o e h => by rw [h, hI] at e; cases e
  exact ⟨fun b o e h0 h1 h2 h3 => hk b o (ne b o e) (K.frm b o e h0 h1 h2 h3), fun b o e => let ⟨o', e'⟩ := K.live b o e; ⟨o', hk b o' (ne b o e) e'⟩, K.fz, K.fh⟩
theorem GS.iter {Z : Zm} {loc : Loc} {H : LH} {s₀ s : Shared} {I : Addr} {h' : Heap} {tk : Nat} (S : GS g₀ Fo env Z loc H s₀ s) (hk : ∀ b o, b ≠ I → s.heap.get? b = some o → h'.get? b = some o) (iF : I ∉ Fo) (iZ : Z I = none) (iH : H I = none) (iL : env.locals ≠ I) (iC : ∀ m c, (m, c) ∈ env.cells → c ≠ I)
    (it : ∀ o, s.heap.get? I = some o → ¬ TupObj o) : GS g₀ Fo env Z loc H s₀ { s with heap := h', toks := tk } where
  sat := S.sat.but hk iL iC iZ iH
  kt := fun b o e h => by
    have e1 := S.kt b o e h
    refine hk b o (fun q => ?_) e1
    subst q
    exact h.elim iF (it o e1)
  sh := by obtain ⟨h, t, rfl⟩ := S.sh; exact ⟨h', tk, rfl⟩
  fo := fun b hb => let ⟨a, b', c, d, o, e⟩ := S.fo b hb; ⟨a, b', c, d, o, hk b o (fun q => iF (q ▸ hb)) e⟩
theorem gx_for {elts : List Expr} {x1} {tp : Pos} {it : Expr} {b : List Stmt} {pos : Pos} {fi : ET} {fa : PV → St → (St → Prop) → Prop} {fb : XG} (hi : EvOk g₀ prog w n env it fi) (ha : AsOk g₀ prog w env (.Tuple elts x1 tp) fa) (hb : GxsOk g₀ tot Fo prog w n env b fb)
    (hf : ∀ p σ Q, fa p σ Q → ∃ ps, p = .tup ps) (hs : ∀ x, foldedSetIterable it env x = pure x) :
    GxOk g₀ tot Fo prog w n env (.For (.Tuple elts x1 tp) it b [] pos) (fun σ ys Q => fi σ fun a H₁ => ∃ xs, a = .lst xs ∧ forG fa fb xs ⟨σ.loc, H₁⟩ ys Q) := by
  intro A c fs Z loc H s₀ s Q ys K Hx gd lv ga hg S su hff q
  refine seg_For (hi _ Z loc H s _ _ _ ga.rm S.sat hff fun x a Z₁ H₁ s₁ k₁ va f₁ => ?_) hs
  obtain ⟨xs, rfl, f₁⟩ := f₁
  have S₁ := S.step k₁.sk
  replace q := q.after (Gk.of k₁.sk)
  cases va with
  | lst zl rl =>
  rename_i l vs kl
  have ho := S₁.sat.frz _ _ zl
  have hl : s₁.heap.IsList l vs.toArray := ⟨_, ho, rfl, _, rfl⟩
  refine wpAny_pyIter_list hl fun p => ?_
  rw [hg]
  have ga' : GA n A (.forLoop (.Tuple elts x1 tp) (.ref s₁.heap.objs.size) b [] env) (.ret (ownK K Hx gd lv env) none false (lv []) c p [] :: fs) := ga.push rfl rfl
  clear ga S hff
  have hne : l ≠ s₁.heap.objs.size := Nat.ne_of_lt (Heap.lt_size ho)
  have W0 := Walks.list (prog := prog) (w := w) ga'.rm.hd s₁.heap.objs.size l hne vs.toArray
  have hn0 : vs.toArray.size = xs.length := by rw [List.size_toArray, rl.length]
  rw [hn0] at W0
  have hI : s₁.heap.get? s₁.heap.objs.size = none := get_size _
  have kp := Kp.push s₁ { cls := .type "list_iterator", data := .fields #[.ref l, .int 0 0] }
  have hst : (s₁.heap.push { cls := .type "list_iterator", data := .fields #[.ref l, .int 0 0] }).IsListIter s₁.heap.objs.size l 0 ∧ (s₁.heap.push { cls := .type "list_iterator", data := .fields #[.ref l, .int 0 0] }).IsList l vs.toArray :=
    ⟨⟨_, Heap.get?_push_size _ rfl, rfl, rfl⟩, hl.at fun o e => Heap.get?_push_of_some _ e⟩
  have iF : s₁.heap.objs.size ∉ Fo := fun h => by obtain ⟨_, _, _, _, o, e⟩ := S₁.fo _ h; rw [hI] at e; cases e
  have iL : env.locals ≠ s₁.heap.objs.size := fun h => by obtain ⟨oL, eL⟩ := S₁.sat.nsAt; rw [h, hI] at eL; cases eL
  have iC : ∀ m c, (m, c) ∈ env.cells → c ≠ s₁.heap.objs.size := fun m c hm h => by obtain ⟨_, _, oc, ec, _⟩ := S₁.sat.cellZ m _ hm; rw [h, hI] at ec; cases ec
  have iZ : Z₁ s₁.heap.objs.size = none := by
    cases q1 : Z₁ s₁.heap.objs.size with
    | none => rfl
    | some o => have := S₁.sat.frz _ o q1; rw [hI] at this; cases this
  have iH : H₁ s₁.heap.objs.size = none := by
    cases q1 : H₁ s₁.heap.objs.size with
    | none => rfl
    | some o => obtain ⟨_, _, _, e, _⟩ := S₁.sat.obj _ _ q1; rw [hI] at e; cases e
  generalize hIe : s₁.heap.objs.size = I at *
  have loop : ∀ (k i : Nat) (Z : Zm) (loc : Loc) (H : LH) (s₀ s : Shared) (ys : List PV), xs.length - i = k → i ≤ xs.length → GS g₀ Fo env Z loc H s₀ s → Gk Fo env Z₁ H₁ s₁ Z H s → Z I = none → H I = none → s.heap.IsListIter I l i ∧ s.heap.IsList l vs.toArray → Suf tot ys → forG fa fb (xs.drop i) ⟨loc, H⟩ ys Q →
      Seg (model prog w) A (GR g₀ Fo) (GY g₀ tot Fo) ys.length s₀ (.forLoop (.Tuple elts x1 tp) (.ref I) b [] env) ((model prog w).den (.forLoop (.Tuple elts x1 tp) (.ref I) b [] env)) (.ret (ownK K Hx gd lv env) none false (lv []) c p [] :: fs) s := by
    intro k
    induction k with
    | zero =>
      intro i Z loc H s₀ s ys hk hi S KK hZ hH hst su ff
      have hin : i = xs.length := by (first | lia | omega)
      subst hin
      rw [List.drop_length] at ff
      refine seg_forLoop (W0.done s _ _ hst fun h' tk hk₁ => ?_)
      have hk₂ : ∀ b o, b ≠ I → s.heap.get? b = some o → h'.get? b = some o := fun b o hb e => hk₁ b o (fun hm => hb (List.mem_singleton.mp hm)) e
      refine seg_again rfl (seg_block ?_)
      refine q .next .next loc Z H s₀ _ ys (S.iter hk₂ iF hZ hH iL iC fun o e t => ?_) (KK.iter hI hk₂) su .next ff
      obtain ⟨o', e', hc, _⟩ := hst.1
      rw [e] at e'; cases e'
      obtain ⟨_, _, rfl⟩ := t
      exact absurd (Value.type.inj hc) (by decide)
    | succ k ih =>
      intro i Z loc H s₀ s ys hk hi S KK hZ hH hst su ff
      have hlt : i < xs.length := by (first | lia | omega)
      refine seg_forLoop (W0.item i s _ _ hlt hst fun v h' tk hP hst₁ hk₁ => ?_)
      have hk₂ : ∀ b o, b ≠ I → s.heap.get? b = some o → h'.get? b = some o := fun b o hb e => hk₁ b o (fun hm => hb (List.mem_singleton.mp hm)) e
      have it : ∀ o, s.heap.get? I = some o → ¬ TupObj o := fun o e t => by
        obtain ⟨o', e', hc, _⟩ := hst.1
        rw [e] at e'; cases e'
        obtain ⟨_, _, rfl⟩ := t
        exact absurd (Value.type.inj hc) (by decide)
      obtain ⟨pp, hp, vp⟩ := rl.get' (i := i) (v := v) (by simpa using hP)
      have hd : xs.drop i = pp :: xs.drop (i + 1) := by
        rw [List.drop_eq_getElem_cons hlt]
        congr 1
        have := List.getElem?_eq_getElem hlt
        rw [this] at hp; exact Option.some.inj hp
      rw [hd] at ff
      have S' := S.iter (tk := tk) hk₂ iF hZ hH iL iC it
      have K' := KK.iter (tk := tk) hI hk₂
      obtain ⟨ps, rfl⟩ := hf _ _ _ ff
      obtain ⟨T, rfl⟩ : ∃ T, v = .ref T := by cases vp; exact ⟨_, rfl⟩
      refine wpAny_letOwnedTupleGo_listiter hst₁.1 ?_
      refine ha _ Z loc H _ _ _ _ _ _ ga'.rm.hd S'.sat (vp.mono KK.fz.1) ff fun loc₂ Z₂ H₂ s₂ k₂ f₂ => ?_
      obtain ⟨oI, eI, _⟩ := hst₁.1
      refine hb A _ _ Z₂ loc₂ H₂ s₀ s₂ _ ys _ _ id id ga' rfl (S'.step k₂) su f₂ fun fl p' loc' Z' H' s₀' s' ys' Sx kx su' v fx => ?_
      have K₂ := K'.trans (Gk.of k₂)
      have K₃ := K₂.trans kx
      have h1 : s₂.heap.get? I = some oI := k₂.frm I oI eI (fun h => iL h.symm) (fun m hm => iC m I hm rfl) fun ys hy => by rw [hH] at hy; cases hy
      have hZ2 := k₂.noZ eI hZ
      have hH2 := k₂.noH eI hH
      have goOn : forG fa fb (xs.drop (i + 1)) ⟨loc', H'⟩ ys' Q → Seg (model prog w) A (GR g₀ Fo) (GY g₀ tot Fo) ys'.length s₀' (.forLoop (.Tuple elts x1 tp) (.ref I) b [] env) ((model prog w).den (.forLoop (.Tuple elts x1 tp) (.ref I) b [] env)) (.ret (ownK K Hx gd lv env) none false (lv []) c p [] :: fs) s' := fun fy => by
        refine ih (i + 1) Z' loc' H' s₀' s' ys' (by (first | lia | omega)) hlt Sx K₃ (kx.noZ h1 hZ2) (kx.noH h1 hH2) ?_ su' fy
        refine W0.frame (i + 1) h' s'.heap hst₁ fun b hb' o e => ?_
        rcases List.mem_cons.mp hb' with rfl | hb'
        · rw [eI] at e; cases e
          exact kx.frm _ _ h1 iF (fun h => iL h.symm) (fun m hm => iC m _ hm rfl) fun ys hy => by rw [hH2] at hy; cases hy
        · rw [List.mem_singleton.mp hb'] at e ⊢
          have e1 : h'.get? l = some _ := S'.sat.frz l _ (KK.fz.1 l _ zl)
          rw [e1] at e; cases e
          exact Sx.sat.frz l _ (kx.fz.1 l _ (k₂.fz.1 l _ (KK.fz.1 l _ zl)))
      cases v with
      | next => exact seg_again rfl (goOn fx)
      | cont => exact seg_again rfl (goOn fx)
      | brk => exact turn_end .next (q .next .next loc' Z' H' s₀' s' ys' Sx K₃ su' .next fx)
      | ret v => exact turn_end (.ret _) (q _ _ loc' Z' H' s₀' s' ys' Sx K₃ su' (.ret v) fx)
  refine loop _ 0 Z₁ loc H₁ s₀ _ ys rfl (Nat.zero_le _) (S₁.step (Ke.keep S₁.sat kp).sk) (Gk.of (Ke.keep S₁.sat kp).sk) iZ iH hst su f₁
end
end Mine
end
section
namespace Mine
/-- all that a heap holds -/
noncomputable def Zh (h : Heap) : Zm := fun a => h.get? a
section
variable {K : Frag} {prog : Program} {w : World} {n : Nat}
/-- a generator function is called -/
theorem gen_enter {A : Around} {s : Shared} {R : Result → Shared → Prop} {name qual : Str} {params : Arguments} {body : List Stmt} {scope : Scope} {dV kV doc pm cdv ct oc : Value} {an od : Option Addr} {osl : Array (Option Value)} {f : Addr}
    {names : List String} {ps : List PV} {vs : List Value}
    (G : Gr K s.heap) (ho : K.lookup f = some ⟨oc, od, .func (fnOf name qual params body scope dV kV doc pm an cdv ct), osl⟩) (hcd : codeIn K cdv qual = true)
    (hco : scope.isCoroutine = false) (hgen : scope.isGenerator = true) (hk : scope.kind = .function)
    (hbind : BindsTo s (fnOf name qual params body scope dV kV doc pm an cdv ct) ⟨vs, []⟩ ((names.map Str.ofString).zip vs))
    (hkind : (names.all fun y => scope.names.lookup (Str.ofString y) == some .local || scope.names.lookup (Str.ofString y) == some .cell) = true) (hnn : names.Nodup) (hnd : ((cellsFrom 0 scope.names []).map (·.1)).Nodup)
    (hd : A.depth < recursionLimit) (hv : VRs (Zh s.heap) ps vs)
    (h : ∀ L' s', Sat s.heap (Zh s.heap) (envOfC qual scope L' f cdv) (argLoc names ps) (fun _ => none) s'.heap → Kp s s' →
      R (.ok (.ret (.ref s'.heap.objs.size))) { s' with gens := s'.gens.push (.fresh (.func body (envOfC qual scope L' f cdv))), toks := s'.toks + 1 + 1, heap := s'.heap.push { cls := .type "generator", data := .fields #[.int s'.gens.size 0, .str name s'.toks, .str qual (s'.toks + 1)] } }) :
    codeAny (model prog w) A (.call (.ref f) ⟨vs, []⟩) R s := by
  have X : K.In s.heap := G.X
  refine codeAny_call_generator hd (X _ _ ho) rfl hco hgen rfl (codeRec_of X hcd) (hbind _ _ _ _ ?_)
  have hkinds : ∀ y, y ∈ (names.map Str.ofString).zip vs → ∃ x ∈ names, y.1 = Str.ofString x := fun y hy => by
    have := (List.of_mem_zip hy).1
    obtain ⟨x, hx, e⟩ := List.mem_map.mp this
    exact ⟨x, hx, e.symm⟩
  have kd : ((names.map Str.ofString).zip vs).all (fun y => scope.names.lookup y.1 == some .local || scope.names.lookup y.1 == some .cell) = true := by
    refine List.all_eq_true.mpr fun y hy => ?_
    obtain ⟨x, hx, e⟩ := hkinds y hy
    rw [e]; exact List.all_eq_true.mp hkind x hx
  refine wpAny_newFunctionEnv_cells hk (kindsX kd _) fun env' he s' x => ?_
  subst he
  have hkeep := x.toInCall.keep
  refine ⟨G.nl.keeps hkeep, ?_⟩
  have nd : (((names.map Str.ofString).zip vs).map (·.1)).Nodup := by
    refine List.Nodup.sublist (zip_fst_sublist _ _) ?_
    exact hnn.map Str.ofString fun a b hab h => hab (ofString_inj h)
  refine h s.heap.objs.size s' ⟨fun a o e => e, fun a o e => hkeep a o e, get_size _, ?_, ?_, hk, ⟨_, x.toInCall.ns, ?_⟩, fun a l e => by cases e⟩ ?_
  · intro m c hm
    have hab : s.heap.objs.size < c := x.above m c hm
    refine ⟨?_, ?_⟩
    · cases q : Zh s.heap c with
      | none => rfl
      | some o => have := Heap.lt_size (show s.heap.get? c = some o from q); exact absurd this (Nat.lt_asymm hab)
    · exact ⟨_, x.cell m c (lookup_of_mem_nodup (cellsFrom_names scope.names 0 (s.heap.objs.size + 1) [] [] rfl ▸ hnd) hm)⟩
  · show (List.map (·.2) (cellsFrom (s.heap.objs.size + 1) scope.names [])).Nodup
    exact List.pairwise_map.mpr x.apart
  · intro y p e
    obtain ⟨v, hm, vr⟩ := argLoc_some hv e
    have hy := List.all_eq_true.mp kd _ hm
    by_cases hl : (envOfC qual scope s.heap.objs.size f cdv).kindOf (Str.ofString y) = some .local
    · exact .loc v hl (bindL_mem hl nd (.inl hm)) vr
    · have hc : (envOfC qual scope s.heap.objs.size f cdv).kindOf (Str.ofString y) = some .cell := by
        rcases Bool.or_eq_true_iff.mp hy with h | h
        · exact absurd (show scope.names.lookup (Str.ofString y) = some .local by simpa using h) hl
        · exact (show scope.names.lookup (Str.ofString y) = some .cell by simpa using h)
      obtain ⟨c, hc'⟩ := Option.isSome_iff_exists.mp (((kindsX kd (s.heap.objs.size + 1) _ hm).resolve_left fun h => hl h).2)
      have hcell := x.cell _ _ hc'
      have e : bindC (envOfC qual scope s.heap.objs.size f cdv).kindOf ((names.map Str.ofString).zip vs) (fun _ => none) (Str.ofString y) = some v := bindC_mem hl nd (.inl hm)
      have hcell' : s'.heap.IsCell c (bindC (envOfC qual scope s.heap.objs.size f cdv).kindOf ((names.map Str.ofString).zip vs) (fun _ => none) (Str.ofString y)) := hcell
      rw [e] at hcell'
      exact .cell c v (.inl hc) hc' hcell' vr
  · obtain ⟨h', tk, e, k⟩ := x.done
    exact ⟨h', tk, e, k⟩
end
section
variable {g₀ : Heap} {tot : List PV} {Fo : List Addr} {prog : Program} {w : World} {n : Nat} {env : Env}
/-- the body's end: all is yielded, None is given back -/
noncomputable def GEnd (fl : Fl) (_ : St) (ys : List PV) : Prop := ys = [] ∧ (fl = .next ∨ fl = .ret .none)
theorem gen_first {A : Around} {body : List Stmt} {F : XG} {Z : Zm} {loc : Loc} {H : LH} {s : Shared} (hb : GxsOk g₀ tot Fo prog w n env body F) (ga : GA n A (.func body env) []) (S : GS g₀ Fo env Z loc H s s) (f : F ⟨loc, H⟩ tot GEnd) :
    Seg (model prog w) A (GR g₀ Fo) (GY g₀ tot Fo) tot.length s (.func body env) ((model prog w).den (.func body env)) [] s := by
  refine seg_func (hb A _ [] Z loc H s s _ tot _ _ id id ga rfl S ⟨[], rfl⟩ f fun fl p loc' Z' H' s₀' s' ys' S' k su v f' => ?_)
  obtain ⟨rfl, hfl⟩ := f'
  have fin : Seg (model prog w) A (GR g₀ Fo) (GY g₀ tot Fo) 0 s₀' (.func body env) (leafOf (.ok (.ret .none))) [] s' := seg_end _ ⟨rfl, rfl, S'.kt, S'.og, S'.sh⟩
  rcases hfl with rfl | rfl
  · cases v; exact fin
  · cases v with | ret v => cases v; exact fin
end
end Mine
end
section
namespace Mine
section
variable (g₀ : Heap) (tot : List PV) (Fo : List Addr) (prog : Program) (w : World)
/-- the generator g has m more to yield -/
noncomputable def GI (A : Around) (g m : Nat) (s : Shared) : Prop := ∃ gs, s.gens[g]? = some gs ∧ gs.Goes (model prog w) A (GR g₀ Fo) (GY g₀ tot Fo) m (.send .none) (s.setGen g .running)
/-- all is drawn -/
structure GD (S g : Nat) (s s' : Shared) : Prop where
  og : Og g₀ s'
  vs : ∃ vs c, s'.heap.get? S = some { cls := .type "list", dict := none, data := .seq (List.toArray vs) c, slots := #[] } ∧ VRs (Zt s'.heap) tot vs
  gens : s'.gens = s.gens.setIfInBounds g .finished
  sh : ∃ h gs tk, s' = { s with heap := h, gens := gs, toks := tk }
end
theorem Zt.le {h h' : Heap} (k : ∀ b o, h.get? b = some o → TupObj o → h'.get? b = some o) : Zle (Zt h) (Zt h') := fun a o e => let ⟨e', t⟩ := Zt.get e; Zt.of (k a o e' t) t
section
variable {g₀ : Heap} {tot : List PV} {Fo : List Addr} {prog : Program} {w : World} {A : Around} {S I g : Nat}
theorem gen_loop {R : Result → Shared → Prop} (hh : A.handled = none) (hd : A.in1.depth < recursionLimit) (nl : g₀.NoLimit) (hSn : g₀.get? S = none) (hS : S ∈ Fo) (hI : I ∈ Fo) (hSI : S ≠ I) (hn : tot.length ≤ 100000) (res : Value) :
    ∀ (m : Nat) (s : Shared) (done : List PV) (vs : List Value) (c : Nat), (∃ rest, tot = done ++ rest ∧ rest.length = m) → GI g₀ tot Fo prog w A.in1.in1 g m s → Og g₀ s → (∀ b ∈ Fo, ∃ o, s.heap.get? b = some o) → s.heap.IsGen I g →
    s.heap.get? S = some { cls := .type "list", dict := none, data := .seq (List.toArray vs) c, slots := #[] } → VRs (Zt s.heap) done vs → (∀ s', GD g₀ tot S g s s' → R (.ok (.ret res)) s') →
    codeAny (model prog w) A (.builtin "list.extend.loop" ⟨[.ref S, .ref I, res], []⟩) R s := by
  intro m
  induction m with
  | zero =>
    intro s done vs c hr hgi og hex hig hSl hv hR
    obtain ⟨rest, rfl, hl⟩ := hr
    rw [List.length_eq_zero_iff.mp hl, List.append_nil] at *
    obtain ⟨gs, hgs, hgo⟩ := hgi
    refine codeAny_builtin F.entry_extend_loop ?_
    rw [Around.under_plainId F.plain_extend_loop _]
    show wpAny _ A.in1 (pyNext (.ref I) >>= _) _ _ s
    refine wpAny_bind (wpAny_pyNext_gen (n := 0) (P := GP g₀ Fo) (by exact hh) (nl.keeps og) hd hig hgs hgo (fun v s₁ gs' hy => ?_) fun s₁ hp h' hk => ?_)
    · obtain ⟨p, _, _, kt, _, _, kap⟩ := hy
      exact (kap s₁ ⟨fun b o _ e => e, fun b hb => let ⟨o, e⟩ := hex b hb; ⟨o, kt b o e (.inl hb)⟩⟩).elim
    · obtain ⟨_, kt, og', h₁, t₁, rfl⟩ := hp
      refine wpAny_pure (hR _ ⟨fun b o e => hk b o (og' b o e), ⟨vs, c, hk _ _ (kt _ _ hSl (.inl hS)), hv.mono (kt.zt.trans (Zt.le fun b o e _ => hk b o e))⟩, ?_, ⟨h', _, t₁, rfl⟩⟩)
      show (s.gens.setIfInBounds g .running).setIfInBounds g .finished = _
      rw [Array.setIfInBounds_setIfInBounds]
  | succ m ih =>
    intro s done vs c hr hgi og hex hig hSl hv hR
    obtain ⟨rest, hr, hl⟩ := hr
    obtain ⟨gs, hgs, hgo⟩ := hgi
    cases rest with
    | nil => cases hl
    | cons p rest =>
    have hl' : rest.length = m := by simpa using hl
    refine codeAny_builtin F.entry_extend_loop ?_
    rw [Around.under_plainId F.plain_extend_loop _]
    show wpAny _ A.in1 (pyNext (.ref I) >>= _) _ _ s
    refine wpAny_bind (wpAny_pyNext_gen (n := m + 1) (P := GP g₀ Fo) (by exact hh) (nl.keeps og) hd hig hgs hgo (fun v s₁ gs' hy => ?_) fun s₁ hp h' hk => ?_)
    · obtain ⟨p', hp, vr, kt, og', ⟨h₁, t₁, rfl⟩, kap⟩ := hy
      have hpp : p' = p := by
        have e := (Suf.head (p := p) (ys := rest) (tot := tot) ⟨done, hr⟩).1
        rw [hl'] at e
        rw [show m + 1 - 1 = m from rfl, e] at hp
        exact (Option.some.inj hp).symm
      subst hpp
      have hS₁ : h₁.get? S = some { cls := .type "list", dict := none, data := .seq (List.toArray vs) c, slots := #[] } := kt _ _ hSl (.inl hS)
      have hlen : done.length + rest.length + 1 = tot.length := by rw [hr]; simp; (first | lia | omega)
      have hvl := hv.length
      show wpAny _ A.in1 (updateSeq S (·.push v) >>= _) _ _ _
      refine wpAny_bind ?_
      have hlt : g < s.gens.size := (Array.getElem?_eq_some_iff.mp hgs).1
      obtain ⟨c2, hS₂⟩ : ∃ c2, (h₁.update S (Obj.mapSeq (·.push v))).get? S = some { cls := .type "list", dict := none, data := .seq (List.toArray (vs ++ [v])) c2, slots := #[] } := by
        rw [Heap.get?_update_self (Obj.mapSeq (·.push v)) hS₁ rfl]
        exact ⟨_, by simp only [Obj.mapSeq, List.push_toArray]; rfl⟩
      have oth : ∀ b o, b ≠ S → h₁.get? b = some o → (h₁.update S (Obj.mapSeq (·.push v))).get? b = some o := fun b o hb e => (Heap.get?_update_other _ _ (Ne.symm hb)).trans e
      have notT : ∀ o, h₁.get? S = some o → ¬ TupObj o := fun o e t => by
        rw [hS₁] at e; cases e
        obtain ⟨_, _, e⟩ := t
        exact absurd (Value.type.inj (congrArg Obj.cls e)) (by decide)
      have zl : Zle (Zt h₁) (Zt (h₁.update S (Obj.mapSeq (·.push v)))) := Zt.le fun b o e t => oth b o (fun q => notT o (q ▸ e) t) e
      have hex₂ : ∀ b ∈ Fo, ∃ o, (h₁.update S (Obj.mapSeq (·.push v))).get? b = some o := fun b hb => by
        by_cases hbS : b = S
        · rw [hbS]; exact ⟨_, hS₂⟩
        · obtain ⟨o, e⟩ := hex b hb
          exact ⟨o, oth b o hbS (kt b o e (.inl hb))⟩
      refine wpAny_updateSeq (a := S) hS₁ rfl (wpAny_pure ⟨plainId_quiet F.plain_extend_loop _, ih _ (done ++ [p']) (vs ++ [v]) c2 ⟨rest, by rw [hr]; simp, hl'⟩ ⟨gs', ?_, ?_⟩ ?_ hex₂ ?_ hS₂ ?_ ?_⟩) ?_ ?_
      · show ((s.gens.setIfInBounds g .running).setIfInBounds g gs')[g]? = some gs'
        simp [hlt]
      · exact kap _ ⟨fun b o hb e => oth b o (fun q => hb (q ▸ hS)) e, hex₂⟩
      · exact fun b o e => oth b o (fun q => by rw [q, hSn] at e; cases e) (og' b o e)
      · obtain ⟨o, nm, qn, ho, r⟩ := hig
        exact ⟨o, nm, qn, oth I _ (Ne.symm hSI) (kt I o ho (.inl hI)), r⟩
      · exact (hv.mono (kt.zt.trans zl)).append (.cons (vr.mono zl) .nil)
      · intro s' gd
        obtain ⟨h, gs2, tk, e⟩ := gd.sh
        refine hR s' ⟨gd.og, gd.vs, ?_, ⟨h, gs2, tk, e⟩⟩
        rw [gd.gens]
        show ((s.gens.setIfInBounds g .running).setIfInBounds g gs').setIfInBounds g .finished = _
        rw [Array.setIfInBounds_setIfInBounds, Array.setIfInBounds_setIfInBounds]
      · rw [List.size_toArray, sizeLine_eq]; (first | lia | omega)
      · rw [Array.size_push, List.size_toArray, sizeLine_eq]; (first | lia | omega)
    · exact absurd hp.1 (by simp)
end
end Mine
end
section
namespace Mine
section
variable {g₀ : Heap} {tot : List PV} {prog : Program} {w : World} {A : Around} {I g : Nat} {s : Shared} {n : Nat} {env : Env}
set_option maxHeartbeats 1000000 in
/-- list(generator) -/
theorem call_list_gen {Q : Value → Shared → Prop} {E : Value → Shared → Prop} {body : List Stmt} {Fg : XG} {Z : Zm} {loc : Loc} {H : LH} (hh : A.handled = none) (hd : A.in1.in1.depth < recursionLimit) (nl : g₀.NoLimit) (hn : tot.length ≤ 100000)
    (ga : GA n A.in1.in1.in1 (.func body env) []) (hb : GxsOk g₀ tot [s.heap.objs.size, I] prog w n env body Fg) (f : Fg ⟨loc, H⟩ tot GEnd) (S0 : Sat g₀ Z env loc H s.heap) (hig : s.heap.IsGen I g) (hg : s.gens[g]? = some (.fresh (.func body env)))
    (hgI : g₀.get? I = none) (iZ : Z I = none) (iH : H I = none) (iL : I ≠ env.locals) (iC : ∀ m, (m, I) ∉ env.cells)
    (hQ : ∀ s', GD g₀ tot s.heap.objs.size g s s' → Q (.ref s.heap.objs.size) s') :
    wpAny (model prog w) A (call (.type "list") [.ref I]) Q E s := by
  have hnone := get_size s.heap
  have hIS : s.heap.objs.size ≠ I := fun h => by obtain ⟨o, _, _, e, _⟩ := hig; rw [← h, hnone] at e; cases e
  have hSg : g₀.get? s.heap.objs.size = none := by
    cases q : g₀.get? s.heap.objs.size with
    | none => rfl
    | some o => have := S0.frz _ o (S0.base _ o q); rw [hnone] at this; cases this
  have sZ : Z s.heap.objs.size = none := by
    cases q : Z s.heap.objs.size with
    | none => rfl
    | some o => have := S0.frz _ o q; rw [hnone] at this; cases this
  have sH : H s.heap.objs.size = none := by
    cases q : H s.heap.objs.size with
    | none => rfl
    | some o => obtain ⟨_, _, _, e, _⟩ := S0.obj _ _ q; rw [hnone] at e; cases e
  have sL : s.heap.objs.size ≠ env.locals := fun h => by obtain ⟨oL, eL⟩ := S0.nsAt; rw [← h, hnone] at eL; cases eL
  have sC : ∀ m, (m, s.heap.objs.size) ∉ env.cells := fun m hm => by obtain ⟨_, _, oc, ec, _⟩ := S0.cellZ m _ hm; rw [hnone] at ec; cases ec
  -- a heap that keeps all bears the generator, not begun yet
  have start : ∀ s' : Shared, s'.gens = s.gens → (∀ b o, s.heap.get? b = some o → s'.heap.get? b = some o) → (∃ o, s'.heap.get? s.heap.objs.size = some o) → GI g₀ tot [s.heap.objs.size, I] prog w A.in1.in1.in1 g tot.length s' := fun s' eg hk hS => by
    refine ⟨.fresh (.func body env), by rw [eg]; exact hg, show _ ∧ _ from ⟨rfl, gen_first hb ga ⟨S0.keeps hk, fun _ _ e _ => e, ⟨_, _, rfl⟩, fun b hb => ?_⟩ f⟩⟩
    rcases List.mem_cons.mp hb with rfl | hb
    · exact ⟨sZ, sH, sL, sC, hS⟩
    · rw [List.mem_singleton.mp hb]
      obtain ⟨o, _, _, e, _⟩ := hig
      exact ⟨iZ, iH, iL, iC, o, hk I o e⟩
  generalize hSS : s.heap.objs.size = S at *
  refine callType_codes (Q₁ := fun obj s₁ => obj = .ref s.heap.objs.size ∧ s₁ = { s with heap := s.heap.push { cls := .type "list", data := .seq #[] } }) F.called_list (F.typeCall_list_1 _) F.entry_list_init
    (code_list_new _ ⟨rfl, rfl⟩) fun obj s₁ h₁ => ?_
  obtain ⟨rfl, rfl⟩ := h₁
  rw [hSS]
  have hS : (s.heap.push { cls := .type "list", data := .seq #[] }).get? S = some { cls := .type "list", data := .seq #[] } := hSS ▸ Heap.get?_push_size _ rfl
  refine ⟨⟨_, hS, rfl⟩, F.args_list_init_2 _ _, ?_⟩
  have k1 : ∀ b o, s.heap.get? b = some o → (s.heap.push { cls := .type "list", data := .seq #[] }).get? b = some o := fun b o e => Heap.get?_push_of_some _ e
  generalize hH : s.heap.push { cls := .type "list", data := .seq #[] } = H1 at hS k1
  show wpAny _ _ (Builtin.List.listItems (.ref S) >>= fun old => Builtin.List.listUpdate (.ref S) (fun _ => #[]) >>= fun _ => letGo old.toList.reverse >>= fun _ => Builtin.List.listExtendWith (.ref S) (.ref I) .none) _ _ _
  refine wpAny_bind ?_
  unfold Builtin.List.listItems
  refine wpAny_bind (wpAny_seqItems hS rfl (wpAny_pure ?_))
  show wpAny _ _ (updateSeq S (fun _ => #[]) >>= fun _ => letGo (#[] : Array Value).toList.reverse >>= fun _ => Builtin.List.listExtendWith (.ref S) (.ref I) .none) _ _ _
  refine wpAny_bind (wpAny_updateSeq hS rfl ?_)
  have hS₂ := Heap.get?_update_self (Obj.mapSeq (fun _ => (#[] : Array Value))) hS rfl
  have neS : ∀ b o, s.heap.get? b = some o → b ≠ S := fun b o e h => by rw [h, hnone] at e; cases e
  have k2 : ∀ b o, s.heap.get? b = some o → (H1.update S (Obj.mapSeq (fun _ => (#[] : Array Value)))).get? b = some o :=
    fun b o e => (Heap.get?_update_other _ _ (Ne.symm (neS b o e))).trans (k1 b o e)
  refine wpAny_bind (wpAny_letGo ?_)
  generalize hH2 : H1.update S (Obj.mapSeq (fun _ => (#[] : Array Value))) = H2 at hS₂ k2
  have hig2 : H2.IsGen I g := hig.keeps k2
  have hty : Shared.TypeIs { s with heap := H2 } (.ref I) "generator" := hig2.typeIs
  unfold Builtin.List.listExtendWith
  refine wpAny_bind (wpAny_typeOf hty ?_)
  have q1 : Builtin.List.listSameRef (.ref S) (.ref I) = false := by simp [Builtin.List.listSameRef, hIS]
  have q2 : (Value.type "generator" == Value.type "list") = false := by decide
  have q3 : (Value.type "generator" == Value.type "tuple") = false := by decide
  simp only [q1, q2, q3, Bool.or_false, Bool.false_eq_true, if_false]
  refine wpAny_bind (wpAny_pyIter_gen hig2 ?_)
  refine wpAny_bind (wpAny_holding ?_)
  unfold Builtin.List.listLengthHint
  refine wpAny_bind (wpAny_specialOf hty F.gen_no_len ?_)
  show wpAny _ _ (specialOf (Value.ref I) (Str.ofString "__length_hint__") >>= _) _ _ _
  refine wpAny_bind (wpAny_specialOf hty F.gen_no_hint ?_)
  refine wpAny_pure ?_
  show wpAny _ _ (rule "list.extend.makes-room" >>= fun _ => Builtin.List.listTouch (.ref S) >>= fun _ =>
    again (.builtin "list.extend.loop" ⟨[.ref S, .ref I, .none], []⟩)) _ _ _
  refine wpAny_bind (wpAny_rule ?_)
  refine wpAny_bind ?_
  show wpAny _ _ (updateSeq S (·.push .none) >>= fun _ => updateSeq S (·.pop)) _ _ _
  refine wpAny_bind (wpAny_updateSeq hS₂ rfl ?_)
  have hS₃ := Heap.get?_update_self (Obj.mapSeq (·.push Value.none)) hS₂ rfl
  refine wpAny_updateSeq (hz := by seq_fits) hS₃ rfl ?_
  have hS₄ := Heap.get?_update_self (Obj.mapSeq (·.pop)) hS₃ rfl
  have k3 : ∀ b o, s.heap.get? b = some o → ((H2.update S (Obj.mapSeq (·.push Value.none))).update S (Obj.mapSeq (·.pop))).get? b = some o :=
    fun b o e => (Heap.get?_update_other _ _ (Ne.symm (neS b o e))).trans ((Heap.get?_update_other _ _ (Ne.symm (neS b o e))).trans (k2 b o e))
  refine wpAny_pure ⟨plainId_quiet F.plain_extend_loop _, gen_loop (A := A.in1) (Fo := [S, I]) hh hd nl hSg List.mem_cons_self (List.mem_cons_of_mem _ List.mem_cons_self) hIS hn .none tot.length _ [] [] _ ⟨tot, rfl, rfl⟩
    (start _ rfl k3 ⟨_, hS₄⟩) (fun b o e => k3 b o (S0.frz b o (S0.base b o e))) (fun b hb => ?_) (hig.keeps k3) hS₄ .nil fun s' gd => ⟨rfl, hQ s' ⟨gd.og, gd.vs, gd.gens, gd.sh⟩⟩⟩
  rcases List.mem_cons.mp hb with rfl | hb
  · exact ⟨_, hS₄⟩
  · rw [List.mem_singleton.mp hb]
    obtain ⟨o, _, _, e, _⟩ := hig
    exact ⟨o, k3 I o e⟩
end
end Mine
end
section
namespace Mine
/-- a generator function of the text's -/
noncomputable def GFn (K : Frag) (w : World) (f : Addr) (names : List String) (n : Nat) (Fg : XG) : Prop :=
  ∀ (prog : Program) (A : Around) (s : Shared) (R : Result → Shared → Prop) (ps : List PV) (vs : List Value), Gr K s.heap → VRs (Zh s.heap) ps vs → vs.length = names.length → A.depth < recursionLimit →
    (∀ env body s' nm qn t1 t2, (∀ tot Fo, GxsOk s.heap tot Fo prog w n env body Fg) → Sat s.heap (Zh s.heap) env (argLoc names ps) (fun _ => none) s'.heap → Kp s s' →
      R (.ok (.ret (.ref s'.heap.objs.size))) { s' with gens := s'.gens.push (.fresh (.func body env)), toks := s'.toks + 1 + 1, heap := s'.heap.push { cls := .type "generator", data := .fields #[.int s'.gens.size 0, .str nm t1, .str qn t2] } }) →
    codeAny (model prog w) A (.call (.ref f) ⟨vs, []⟩) R s
theorem GFn.intro {K : Frag} {w : World} {n : Nat} {name qual : Str} {params : Arguments} {body : List Stmt} {scope : Scope} {dV kV doc pm cdv ct oc : Value} {an od : Option Addr} {osl : Array (Option Value)} {f : Addr} {names : List String} {Fg : XG}
    (ho : K.lookup f = some ⟨oc, od, .func (fnOf name qual params body scope dV kV doc pm an cdv ct), osl⟩) (hcd : codeIn K cdv qual = true)
    (hco : scope.isCoroutine = false) (hgen : scope.isGenerator = true) (hk : scope.kind = .function)
    (hbind : ∀ s vs, vs.length = names.length → BindsTo s (fnOf name qual params body scope dV kV doc pm an cdv ct) ⟨vs, []⟩ ((names.map Str.ofString).zip vs))
    (hkind : (names.all fun y => scope.names.lookup (Str.ofString y) == some .local || scope.names.lookup (Str.ofString y) == some .cell) = true) (hnn : names.Nodup) (hnd : ((cellsFrom 0 scope.names []).map (·.1)).Nodup)
    (hb : ∀ g₀ tot Fo prog, Gr K g₀ → ∀ L', GxsOk g₀ tot Fo prog w n (envOfC qual scope L' f cdv) body Fg) : GFn K w f names n Fg :=
  fun prog A s R ps vs G hv hl hd h => gen_enter G ho hcd hco hgen hk (hbind s vs hl) hkind hnn hnd hd hv fun L' s' S k => h _ body s' name qual _ _ (fun tot Fo => hb _ tot Fo prog G L') S k
end Mine
end
section
namespace Mine
theorem cmp_isN {H : LH} {R : Bool → Prop} (h : R true) : cmpW .Is .none .none H R := h
theorem cmp_isB {H : LH} {b : Bool} {R : Bool → Prop} (h : R false) : cmpW .Is (.bool b) .none H R := h
theorem forG_inv {fa : PV → St → (St → Prop) → Prop} {fb : XG} {Q : Fl → St → List PV → Prop} (I : List PV → St → List PV → Prop)
    (step : ∀ p r σ ys (K : Fl → St → List PV → Prop), I (p :: r) σ ys → (∀ σ' ys', I r σ' ys' → K .next σ' ys') → (∀ σ' ys', I r σ' ys' → K .cont σ' ys') → fa p σ fun σ₁ => fb σ₁ ys K)
    (fin : ∀ σ ys, I [] σ ys → Q .next σ ys) : ∀ xs σ ys, I xs σ ys → forG fa fb xs σ ys Q
  | [], σ, ys, h => fin σ ys h
  | p :: r, σ, ys, h => step p r σ ys _ h (fun σ' ys' h' => forG_inv I step fin r σ' ys' h') (fun σ' ys' h' => forG_inv I step fin r σ' ys' h')
theorem whileG_inv' {ft : BT} {fb : XG} {Q : Fl → St → List PV → Prop} (I : Nat → St → List PV → Prop)
    (step : ∀ k σ ys (K : Fl → St → List PV → Prop), I k σ ys → (∀ k' σ' ys', k' < k → I k' σ' ys' → K .next σ' ys') → ft σ fun c H₁ => if c then fb ⟨σ.loc, H₁⟩ ys K else Q .next ⟨σ.loc, H₁⟩ ys) :
    ∀ n k σ ys, k < n → I k σ ys → whileG ft fb n σ ys Q
  | 0, k, σ, _, hk, h => absurd hk (Nat.not_lt_zero k)
  | n + 1, k, σ, ys, hk, h => step k σ ys _ h (fun k' σ' ys' hk' h' => whileG_inv' I step n k' σ' ys' (by (first | lia | omega)) h')
theorem whileG_inv {ft : BT} {fb : XG} {Q : Fl → St → List PV → Prop} (I : Nat → St → List PV → Prop)
    (step : ∀ k σ ys (K : Fl → St → List PV → Prop), I k σ ys → (∀ k' σ' ys', k' < k → I k' σ' ys' → K .next σ' ys') → ft σ fun c H₁ => if c then fb ⟨σ.loc, H₁⟩ ys K else Q .next ⟨σ.loc, H₁⟩ ys)
    (k : Nat) (σ : St) (ys : List PV) (h : I k σ ys) : ∃ n, whileG ft fb n σ ys Q := ⟨k + 1, whileG_inv' I step (k + 1) k σ ys (Nat.lt_succ_self k) h⟩
theorem seqG_to {f g : XG} {σ : St} {ys : List PV} {Q : Fl → St → List PV → Prop} (σ₁ : St) (ys₁ : List PV) (h1 : ∀ R : Fl → St → List PV → Prop, R .next σ₁ ys₁ → f σ ys R) (h2 : g σ₁ ys₁ Q) : seqG f g σ ys Q := h1 _ h2
theorem seqG_ex {f g : XG} {σ : St} {ys : List PV} {Q : Fl → St → List PV → Prop} (I : St → List PV → Prop) (h1 : ∀ R : Fl → St → List PV → Prop, (∀ σ' ys', I σ' ys' → R .next σ' ys') → f σ ys R) (h2 : ∀ σ' ys', I σ' ys' → g σ' ys' Q) : seqG f g σ ys Q := h1 _ h2
set_option genSizeOf false in
set_option genInjectivity false in
/-- a row of _line_wrapper's: a separator; or two sides, each with its number and its signs -/
inductive Rw where
  | sep
  | row (i j : Int) (r1 r2 : Cells) (fl : Bool)
noncomputable def sideP (i : Int) (r : Cells) : PV := if r = [] then .tup [.str (mkS []), .str (mkS (List.replicate 10 10))] else .tup [.int i, .str (mkS (flat (tok [] r)))]
noncomputable def Rw.P : Rw → PV
  | .sep => .tup [.none, .none, .none]
  | .row i j r1 r2 fl => .tup [sideP i r1, sideP j r2, .bool fl]
noncomputable def padP : PV := .tup [.str (mkS []), .str (mkS [32])]
noncomputable def sideRows (wr : Nat) (i : Int) (r : Cells) : List PV := if r = [] then [.tup [.str (mkS []), .str (mkS (List.replicate 10 10))]] else rowsOf (.int i) (pcs wr 62 [] (tok [] r))
noncomputable def zp (fl : Bool) : Nat → List PV → List PV → List PV
  | 0, _, _ => []
  | n + 1, L, M => .tup [L.headD padP, M.headD padP, .bool fl] :: zp fl n L.tail M.tail
noncomputable def Rw.ys (wr : Nat) : Rw → List PV
  | .sep => [.tup [.none, .none, .none]]
  | .row i j r1 r2 fl => zp fl (max (sideRows wr i r1).length (sideRows wr j r2).length) (sideRows wr i r1) (sideRows wr j r2)
noncomputable def OkRw : Rw → Prop
  | .sep => True
  | .row i j r1 r2 _ => i ≠ 0 ∧ j ≠ 0 ∧ okCs r1 ∧ okCs r2 ∧ r1.length ≤ 62 ∧ r2.length ≤ 62
theorem rowsOf_to {line : PV} (h : TO line) (ps : List (List Nat)) : ∀ p ∈ rowsOf line ps, TO p := by
  cases ps with
  | nil => intro p hp; cases hp
  | cons a r =>
    intro p hp
    rcases List.mem_cons.mp hp with rfl | hp
    · exact .tup (.cons h (.cons (.str _) .nil))
    · obtain ⟨q, _, rfl⟩ := List.mem_map.mp hp
      exact .tup (.cons (.str _) (.cons (.str _) .nil))
theorem sideRows_to (wr : Nat) (i : Int) (r : Cells) : ∀ p ∈ sideRows wr i r, TO p := by
  unfold sideRows
  split
  · intro p hp; rw [List.mem_singleton.mp hp]; exact .tup (.cons (.str _) (.cons (.str _) .nil))
  · exact rowsOf_to (.int _) _
theorem headD_to {L : List PV} (h : ∀ p ∈ L, TO p) : TO (L.headD padP) := by
  cases L with
  | nil => exact .tup (.cons (.str _) (.cons (.str _) .nil))
  | cons a r => exact h _ List.mem_cons_self
theorem sideRows_len (wr : Nat) (i : Int) (r : Cells) (hw : 1 ≤ wr) (hr : okCs r) : 1 ≤ (sideRows wr i r).length ∧ (sideRows wr i r).length ≤ r.length + 1 := by
  unfold sideRows
  split
  · simp
  · rw [rowsOf_len]
    have h := pcs_len wr hw 62 [] (tok [] r)
    obtain ⟨p, q, e⟩ := pcs_ne wr 62 [] (tok [] r)
    have h2 := (tok_ok r [] hr (.inl rfl)).2.2.1
    have h3 := cellsOf_len [] (tok [] r)
    rw [h2] at h3
    refine ⟨by rw [e]; simp, by (first | lia | omega)⟩
theorem side_spec (wr : Nat) (i : Int) (r : Cells) (hi : i ≠ 0) (hr : okCs r) (hl : r.length ≤ 62) : ∃ (line : PV) (t : Bool) (B : List Tk), sideP i r = .tup [line, .str (mkS (pre [] ++ flat B))] ∧ (∀ H R, R t → truthW line H R) ∧ PW [] B ∧ mkF [] B = [] ∧ vis B ≤ 62 ∧ (flat B).length ≤ 6000 ∧
    rowsOf line (if t then pcs wr 62 [] B else [pre [] ++ flat B]) = sideRows wr i r := by
  unfold sideP sideRows
  by_cases h : r = []
  · rw [if_pos h, if_pos h]
    exact ⟨.str (mkS []), false, List.replicate 10 (.sg 10), rfl, fun H R h => ⟨by decide, h⟩, by simp [PW, List.replicate], rfl, by decide, by decide, rfl⟩
  · rw [if_neg h, if_neg h]
    obtain ⟨a, b, c, d⟩ := tok_ok r [] hr (.inl rfl)
    have h3 := cellsOf_len [] (tok [] r)
    rw [c] at h3
    exact ⟨.int i, true, tok [] r, rfl, fun H R h => by show R (i != 0); rw [show (i != 0) = true by simpa using hi]; exact h, a, b, by (first | lia | omega), by (first | lia | omega), rfl⟩
theorem truth_R {H : LH} {a : Addr} {l : LO} {Q : Bool → Prop} (ha : H a = some l) (hb : l.xs.length ≤ 100) (h : Q (!l.xs.isEmpty)) : truthW (.ref a) H Q := ⟨l.xs, lstOf_ref ha, by (first | lia | omega), h⟩
theorem zp_step (fl : Bool) {L M : List PV} (h : L ≠ [] ∨ M ≠ []) : zp fl (max L.length M.length) L M = .tup [L.headD padP, M.headD padP, .bool fl] :: zp fl (max L.tail.length M.tail.length) L.tail M.tail ∧ max L.tail.length M.tail.length < max L.length M.length := by
  have e : max L.length M.length = max L.tail.length M.tail.length + 1 := by
    cases L <;> cases M <;> simp at h ⊢ <;> (first | lia | omega)
  rw [e]
  exact ⟨rfl, Nat.lt_succ_self _⟩
theorem tail_to {L : List PV} (h : ∀ p ∈ L, TO p) : ∀ p ∈ L.tail, TO p := fun p hp => h p (List.mem_of_mem_tail hp)
theorem or_pos {c : Bool} {A B : Prop} (h1 : A) (h2 : c = false → A → B) : if c = true then A else B := by
  cases c with
  | true => exact h1
  | false => exact h2 rfl h1
end Mine
end
section
namespace Mine
theorem idx_T {H : LH} {Q : PV → LH → Prop} {xs : List PV} {p : PV} {k : Nat} (hp : xs[k]? = some p) (hb : xs.length < 2 ^ 62) (h : Q p H) : idxW (.tup xs) (.int (k : Int)) H Q := by
  have hk := (List.getElem?_eq_some_iff.mp hp).1
  exact ⟨by (first | lia | omega), p, by rw [seqIndex_nat hk]; exact hp, h⟩
theorem mark4_lt (x : Int) : ∀ c ∈ mark4 x, c < 128 := by
  unfold mark4
  intro c hc
  split at hc
  · cases hc
  · split at hc
    · rw [List.mem_singleton.mp hc]; decide
    · split at hc <;> (rw [List.mem_singleton.mp hc]; decide)
theorem mark4_idxS {H : LH} {Q : PV → LH → Prop} (x : Int) (h : Q (.str (mkS (mark4 x))) H) :
    idxW (.lst [.str (Str.ofString ""), .str (Str.ofString "+"), .str (Str.ofString "-"), .str (Str.ofString "^")]) (.int (x.fmod 4)) H Q := by
  rw [ofSe, ofSp, ofSm, ofSc]; exact mark4_idx x h
theorem ofNl10 : Txt.mul (Str.ofString "\n") 10 = mkS (List.replicate 10 10) := by decide +kernel
theorem mulNl : MulOk (Str.ofString "\n") 10 := by rw [ofSnl]; exact mul_ok [10] 10 (by decide) (by decide)
theorem ofSpc : Str.ofString " " = mkS [32] := by decide +kernel
theorem snoc_ok {r : Cells} {x : Int} (ho : okCs r) (hc : ∀ y ∈ r, y.1 < 128 ∧ ∀ c ∈ y.2, c < 128) :
    okCs (r ++ [((32 + (x.fdiv 24).fmod 95).toNat, mark4 (x.fdiv 6))]) ∧ ∀ y ∈ r ++ [((32 + (x.fdiv 24).fmod 95).toNat, mark4 (x.fdiv 6))], y.1 < 128 ∧ ∀ c ∈ y.2, c < 128 := by
  have := fm_ok (x.fdiv 24) (k := 95) (by decide)
  refine ⟨fun y hy => ?_, fun y hy => ?_⟩ <;> rcases List.mem_append.mp hy with h | h
  · exact ho y h
  · rw [List.mem_singleton.mp h]; exact ⟨by show 2 ≤ (32 + (x.fdiv 24).fmod 95).toNat; (first | lia | omega), mark4_isMk _⟩
  · exact hc y h
  · rw [List.mem_singleton.mp h]; exact ⟨by show (32 + (x.fdiv 24).fmod 95).toNat < 128; (first | lia | omega), mark4_lt _⟩
/-- what is told of a cell, as it is read -/
inductive Rd : PV → PV → Prop
  | mk (a : PV) (A : List Tk) : PW [] A → mkF [] A = [] → (flat A).length ≤ 6000 → Rd (.tup [a, .str (mkS (flat A))]) (.tup [a, .lst ((cellsOf [] A).map cellP)])
noncomputable def dpad : PV := .tup [.str (mkS []), .lst ([(32, [])].map cellP)]
noncomputable def zq (fl : Bool) : Nat → List PV → List PV → List PV
  | 0, _, _ => []
  | n + 1, L, M => .tup [L.headD dpad, M.headD dpad, .bool fl] :: zq fl n L.tail M.tail
noncomputable def Rw.due (wr : Nat) : Rw → List PV
  | .sep => [.tup [.none, .none, .none]]
  | .row i j r1 r2 fl => zq fl (max (cellsOut i r1 wr).length (cellsOut j r2 wr).length) (cellsOut i r1 wr) (cellsOut j r2 wr)
theorem pcn_len (w M : Nat) (T : List Tk) (j : Nat) (hP : PW [] T) : (pcn w M T j).length ≤ (flat T).length + 3 := by
  have hm : isMk (mkF [] (atk w M T j)) := by
    unfold atk
    split
    · have hT : PW [] (cutA (j * w) T) := by have := hP; rw [← cut_app (j * w) T, PW_app] at this; exact this.1
      exact mkF_isMk [] _ hT (.inl rfl)
    · exact mkF_isMk [] _ hP (.inl rfl)
  have h1 := pre_len _ hm
  unfold pcn
  rw [List.length_append, List.length_append, List.length_take, List.length_drop]
  have h2 : ∀ m : List Nat, (post m).length ≤ 1 := fun m => by cases m <;> simp [post]
  have := h2 (mkF [] (atk w M T (j + 1)))
  (first | lia | omega)
theorem rd_pad : Rd padP dpad := by
  have h : padP = .tup [.str (mkS []), .str (mkS (flat [.sg 32]))] := rfl
  rw [h]
  exact .mk _ [.sg 32] (by simp [PW]) rfl (by decide)
theorem side_rd (wr : Nat) (i : Int) (r : Cells) (hw : 1 ≤ wr) (hr : okCs r) (hl : r.length ≤ 62) : Paired Rd (sideRows wr i r) (cellsOut i r wr) := by
  unfold sideRows cellsOut
  by_cases h : r = []
  · rw [if_pos h, if_pos h]
    refine .cons ?_ .nil
    have e : List.replicate 10 10 = flat (List.replicate 10 (.sg 10)) := rfl
    rw [e]
    exact .mk _ (List.replicate 10 (.sg 10)) (by simp [PW, List.replicate]) rfl (by decide)
  · rw [if_neg h, if_neg h]
    obtain ⟨hP, hc, hcs, hfl⟩ := tok_ok r [] hr (.inl rfl)
    have hv := cellsOf_len [] (tok [] r)
    rw [hcs] at hv
    have hpos : 0 < r.length := by cases r with | nil => exact absurd rfl h | cons _ _ => simp
    have hM : (r.length - 1) / wr = cutsN wr (vis (tok [] r)) := by rw [← hv]; rfl
    rw [hM]
    have hM1 := cutsN_1 wr (vis (tok [] r)) hw
    have hM2 := cutsN_2 wr (vis (tok [] r)) hw
    have hMl : cutsN wr (vis (tok [] r)) ≤ 62 := by
      unfold cutsN
      have := Nat.div_le_self (vis (tok [] r) - 1) wr
      (first | lia | omega)
    generalize cutsN wr (vis (tok [] r)) = M at hM1 hM2 hMl
    have e := pcs_law wr M (tok [] r) hw hM1 hM2 hc 62 0 (Nat.zero_le _) (by (first | lia | omega))
    rw [Nat.zero_mul] at e
    have e0 : mkF [] (cutA 0 (tok [] r)) = [] := by simp [cutA, mkF]
    have e1 : cutB 0 (tok [] r) = tok [] r := by simp [cutB]
    rw [e0, e1, Nat.sub_zero] at e
    rw [e]
    have key : ∀ j, j ≤ M → ∀ a, Rd (.tup [a, .str (mkS (pcn wr M (tok [] r) j))]) (.tup [a, .lst (((r.drop (j * wr)).take wr).map cellP)]) := fun j hj a => by
      obtain ⟨A, x1, x2, x3, x4⟩ := pcn_tok wr M (tok [] r) hP hc hM2 j hj
      have hlen := pcn_len wr M (tok [] r) j hP
      rw [x1] at hlen ⊢
      rw [← hcs, ← x4]
      exact .mk a A x2 x3 (by (first | lia | omega))
    have rest : ∀ (n k : Nat), 0 < k → k + n ≤ M + 1 → Paired Rd ((List.range' k n).map fun j => PV.tup [.str (mkS [62]), .str (mkS (pcn wr M (tok [] r) j))]) ((List.range' k n).map (cellRow i r wr)) := by
      intro n
      induction n with
      | zero => intro k _ _; exact .nil
      | succ n ih =>
        intro k hk hkn
        rw [List.range'_succ, List.map_cons, List.map_cons]
        refine .cons ?_ (ih (k + 1) (by (first | lia | omega)) (by (first | lia | omega)))
        unfold cellRow
        rw [if_neg (by (first | lia | omega))]
        exact key k (by (first | lia | omega)) _
    rw [List.range_eq_range', List.range'_succ, List.map_cons, List.map_cons]
    show Paired Rd (.tup [.int i, .str (mkS (pcn wr M (tok [] r) 0))] :: ((List.range' (0 + 1) M).map (pcn wr M (tok [] r))).map fun p => PV.tup [.str (mkS [62]), .str (mkS p)]) _
    rw [List.map_map]
    refine .cons ?_ (rest M (0 + 1) (by (first | lia | omega)) (by (first | lia | omega)))
    unfold cellRow
    rw [if_pos rfl]
    exact key 0 (Nat.zero_le _) _
/-- what is told and what is due -/
inductive Rt : PV → PV → Prop
  | sep : Rt (.tup [.none, .none, .none]) (.tup [.none, .none, .none])
  | row {x y x' y' : PV} (fl : Bool) : Rd x x' → Rd y y' → Rt (.tup [x, y, .bool fl]) (.tup [x', y', .bool fl])
theorem Paired.head {L L' : List PV} (h : Paired Rd L L') : Rd (L.headD padP) (L'.headD dpad) ∧ Paired Rd L.tail L'.tail := by
  cases h with
  | nil => exact ⟨rd_pad, .nil⟩
  | cons a t => exact ⟨a, t⟩
theorem zp_zq (fl : Bool) : ∀ (n : Nat) (L M L' M' : List PV), Paired Rd L L' → Paired Rd M M' → Paired Rt (zp fl n L M) (zq fl n L' M')
  | 0, _, _, _, _, _, _ => .nil
  | n + 1, _, _, _, _, h, k => .cons (.row fl (Paired.head h).1 (Paired.head k).1) (zp_zq fl n _ _ _ _ (Paired.head h).2 (Paired.head k).2)
theorem Paired.app {α β : Type} {F : α → β → Prop} {a c : List α} {b d : List β} (h : Paired F a b) (k : Paired F c d) : Paired F (a ++ c) (b ++ d) := by
  induction h with
  | nil => exact k
  | cons x _ ih => exact .cons x ih
theorem rows_rt (wr : Nat) (hw : 1 ≤ wr) : ∀ rows : List Rw, (∀ x ∈ rows, OkRw x) → Paired Rt (rows.map (Rw.ys wr)).flatten (rows.map (Rw.due wr)).flatten
  | [], _ => .nil
  | x :: rows, h => by
    rw [List.map_cons, List.map_cons, List.flatten_cons, List.flatten_cons]
    refine Paired.app ?_ (rows_rt wr hw rows fun y hy => h y (List.mem_cons_of_mem _ hy))
    have hx := h x List.mem_cons_self
    cases x with
    | sep => exact .cons .sep .nil
    | row i j r1 r2 fl =>
      obtain ⟨_, _, o1, o2, l1, l2⟩ := hx
      have p1 := side_rd wr i r1 hw o1 l1
      have p2 := side_rd wr j r2 hw o2 l2
      show Paired Rt (zp fl (max (sideRows wr i r1).length (sideRows wr j r2).length) (sideRows wr i r1) (sideRows wr j r2)) (zq fl (max (cellsOut i r1 wr).length (cellsOut j r2 wr).length) (cellsOut i r1 wr) (cellsOut j r2 wr))
      rw [← p1.length, ← p2.length]
      exact zp_zq fl _ _ _ _ _ p1 p2
theorem zq_len (fl : Bool) : ∀ (n : Nat) (L M : List PV), (zq fl n L M).length = n
  | 0, _, _ => rfl
  | n + 1, L, M => congrArg (· + 1) (zq_len fl n L.tail M.tail)
theorem cellsOut_len (i : Int) (r : Cells) (wr : Nat) : (cellsOut i r wr).length ≤ r.length + 1 := by
  unfold cellsOut
  split
  · simp
  · rw [List.length_map, List.length_range]
    have := Nat.div_le_self (r.length - 1) wr; (first | lia | omega)
theorem due_len (wr : Nat) : ∀ rows : List Rw, (∀ x ∈ rows, OkRw x) → ((rows.map (Rw.due wr)).flatten).length ≤ 64 * rows.length
  | [], _ => Nat.le_refl _
  | x :: rows, h => by
    rw [List.map_cons, List.flatten_cons, List.length_append, List.length_cons]
    have ih := due_len wr rows fun y hy => h y (List.mem_cons_of_mem _ hy)
    have hx := h x List.mem_cons_self
    have : (Rw.due wr x).length ≤ 64 := by
      cases x with
      | sep => show 1 ≤ 64; decide
      | row i j r1 r2 fl =>
        show (zq _ _ _ _).length ≤ 64
        rw [zq_len]
        have h1 := cellsOut_len i r1 wr
        have h2 := cellsOut_len j r2 wr
        obtain ⟨_, _, _, _, l1, l2⟩ := hx
        (first | lia | omega)
    (first | lia | omega)
theorem range1 (N : Nat) : rngInts 0 (N : Int) 1 = (List.range' 0 N).map fun j : Nat => ((j : Nat) : Int) := by
  by_cases h : N = 0
  · subst h; rfl
  · have e := range0 1 N (Nat.le_refl _) (by (first | lia | omega))
    rw [Nat.div_one, Nat.sub_add_cancel (by (first | lia | omega)), List.range_eq_range'] at e
    rw [show ((1 : Nat) : Int) = 1 from rfl] at e
    rw [e]
    exact List.map_congr_left fun (j : Nat) _ => by rw [Nat.mul_one]
theorem sideP_nil (i : Int) : sideP i [] = .tup [.str (mkS []), .str (mkS (List.replicate 10 10))] := rfl
theorem sideP_cons (i : Int) (x : Nat × List Nat) (r : Cells) : sideP i (x :: r) = .tup [.int i, .str (mkS (flat (tok [] (x :: r))))] := rfl
theorem drop_head {X : List PV} {k : Nat} (h : k < X.length) : X[k]? = some ((X.drop k).headD dpad) := by
  rw [List.drop_eq_getElem_cons h, List.getElem?_eq_getElem h]; rfl
theorem drop_none {X : List PV} {k : Nat} (h : ¬ k < X.length) : (X.drop k).headD dpad = dpad := by
  rw [List.drop_of_length_le (by (first | lia | omega))]; rfl
theorem drop_tail' (X : List PV) (k : Nat) : (X.drop k).tail = X.drop (k + 1) := by rw [List.tail_drop]
end Mine
end
section
namespace Mine
noncomputable def ChRw : Rw → Prop
  | .sep => True
  | .row _ _ r1 r2 _ => (∀ x ∈ r1, x.1 < 128 ∧ ∀ c ∈ x.2, c < 128) ∧ ∀ x ∈ r2, x.1 < 128 ∧ ∀ c ∈ x.2, c < 128
theorem cellsOut_gd {H : LH} (i : Int) (r : Cells) (wr : Nat) (h : ∀ x ∈ r, x.1 < 128 ∧ ∀ c ∈ x.2, c < 128) : ∀ p ∈ cellsOut i r wr, Gd H 59 p := by
  intro p hp
  unfold cellsOut at hp
  split at hp
  · rw [List.mem_singleton.mp hp]
    exact .tup (.cons (.str _ (strOk_mk fun c hc => by cases hc)) (.cons (.lst (cells_gd _ 56 fun x hx => by rw [(List.mem_replicate.mp hx).2]; exact ⟨by decide, fun c hc => by cases hc⟩)) (.nil _)))
  · obtain ⟨j, _, rfl⟩ := List.mem_map.mp hp
    refine .tup (.cons ?_ (.cons (.lst (cells_gd _ 56 fun x hx => h x (List.mem_of_mem_drop (List.mem_of_mem_take hx)))) (.nil _)))
    split
    · exact .int _ _
    · exact .str _ (strOk_mk fun c hc => by rw [List.mem_singleton.mp hc]; decide)
theorem dpad_gd {H : LH} : Gd H 59 dpad :=
  .tup (.cons (.str _ (strOk_mk fun c hc => by cases hc)) (.cons (.lst (cells_gd _ 56 fun x hx => by rw [List.mem_singleton.mp hx]; exact ⟨by decide, fun c hc => by cases hc⟩)) (.nil _)))
theorem headD_gd {H : LH} {L : List PV} (h : ∀ p ∈ L, Gd H 59 p) : Gd H 59 (L.headD dpad) := by
  cases L with
  | nil => exact dpad_gd
  | cons x L => exact h x List.mem_cons_self
theorem zq_gd {H : LH} (fl : Bool) : ∀ (n : Nat) (L M : List PV), (∀ p ∈ L, Gd H 59 p) → (∀ p ∈ M, Gd H 59 p) → ∀ p ∈ zq fl n L M, Gd H 60 p
  | 0, _, _, _, _, _, h => by cases h
  | n + 1, L, M, hL, hM, p, h => by
    rcases List.mem_cons.mp h with rfl | h
    · exact .tup (.cons (headD_gd hL) (.cons (headD_gd hM) (.cons (.bool _ _) (.nil _))))
    · exact zq_gd fl n L.tail M.tail (fun q hq => hL q (List.mem_of_mem_tail hq)) (fun q hq => hM q (List.mem_of_mem_tail hq)) p h
theorem due_gd {H : LH} (wr : Nat) (rows : List Rw) (h : ∀ x ∈ rows, ChRw x) : Gds H 60 (rows.map (Rw.due wr)).flatten := by
  refine Gds.of fun p hp => ?_
  obtain ⟨l, hl, hp⟩ := List.mem_flatten.mp hp
  obtain ⟨x, hx, rfl⟩ := List.mem_map.mp hl
  have hc := h x hx
  cases x with
  | sep =>
    rw [List.mem_singleton.mp hp]
    exact .tup (.cons (.none _) (.cons (.none _) (.cons (.none _) (.nil _))))
  | row i j r1 r2 fl => exact zq_gd fl _ _ _ (cellsOut_gd i r1 wr hc.1) (cellsOut_gd j r2 wr hc.2) p hp
theorem Paired.cons_inv {α β : Type} {F : α → β → Prop} {a : α} {as : List α} {ys : List β} (h : Paired F (a :: as) ys) : ∃ b bs, ys = b :: bs ∧ F a b ∧ Paired F as bs := by
  cases h with
  | cons x t => exact ⟨_, _, rfl, x, t⟩
theorem Paired.nil_inv {α β : Type} {F : α → β → Prop} {ys : List β} (h : Paired F ([] : List α) ys) : ys = [] := by cases h; rfl
end Mine
end
section
namespace Mine
theorem push_set {α : Type} (a : Array α) (x y : α) : (a.push x).setIfInBounds a.size y = a.push y := by
  apply Array.ext'
  rw [Array.toList_setIfInBounds, Array.toList_push, Array.toList_push, List.set_append_right _ _ (by simp)]
  simp
open Classical in
/-- what a state knows, and the tuples of its heap, and one list -/
noncomputable def Zx (Z : Zm) (S : Addr) (h : Heap) : Zm := fun b => match Z b with | some o => some o | none => if b = S then h.get? b else Zt h b
/-- the tuples of the heap are known, and one new list -/
theorem Sat.tups {h₀ : Heap} {Z : Zm} {env : Env} {loc : Loc} {H : LH} {h : Heap} {S : Addr} (A : Sat h₀ Z env loc H h) (nL : S ≠ env.locals) (nC : ∀ m, (m, S) ∉ env.cells) (nH : H S = none) :
    Sat h₀ (Zx Z S h) env loc H h ∧ Zle Z (Zx Z S h) ∧ Zle (Zt h) (Zx Z S h) ∧ ∀ o, h.get? S = some o → Zx Z S h S = some o := by
  have hz : ∀ b o, Zx Z S h b = some o → h.get? b = some o := fun b o e => by
    unfold Zx at e
    cases q : Z b with
    | some o' => rw [q] at e; cases e; exact A.frz _ _ q
    | none =>
      rw [q] at e
      by_cases hb : b = S
      · simp only [hb, if_true] at e; rw [hb]; exact e
      · simp only [if_neg hb] at e; exact (Zt.get e).1
  have no : ∀ b, Z b = none → b ≠ S → (∀ o, h.get? b = some o → ¬ TupObj o) → Zx Z S h b = none := fun b q hb ht => by
    unfold Zx
    rw [q]
    simp only [if_neg hb]
    cases e : Zt h b with
    | none => rfl
    | some o => exact absurd (Zt.get e).2 (ht o (Zt.get e).1)
  have le : Zle Z (Zx Z S h) := fun b o e => by unfold Zx; rw [e]
  refine ⟨A.freeze le hz (no _ A.nsZ (Ne.symm nL) fun o e t => ?_) (fun m c hm => no c (A.cellZ m c hm).1 (fun h => nC m (h ▸ hm)) fun o e t => ?_) (fun a l e => no a (A.obj a l e).1 (fun h => by rw [h, nH] at e; cases e) fun o e' t => ?_), le, fun b o e => ?_, fun o e => ?_⟩
  · obtain ⟨m, ⟨o', es, ep, e', d, _⟩, _⟩ := A.ns
    rw [e] at e'; cases e'
    obtain ⟨vs, k, rfl⟩ := t; cases d
  · obtain ⟨_, _, o', e', d⟩ := A.cellZ m c hm
    rw [e] at e'; cases e'
    obtain ⟨vs, k, rfl⟩ := t; cases d
  · obtain ⟨_, vs, k, e2, _⟩ := A.obj a l e
    rw [e'] at e2; cases e2
    obtain ⟨vs', k', t'⟩ := t
    injection t' with t1; exact absurd t1 (by decide)
  · unfold Zx
    cases q : Z b with
    | some o' => have := A.frz _ _ q; rw [(Zt.get e).1] at this; rw [this]
    | none =>
      by_cases hb : b = S
      · simp only [hb, if_true]; rw [← hb]; exact (Zt.get e).1
      · simp only [if_neg hb]; exact e
  · unfold Zx
    cases q : Z S with
    | some o' => have := A.frz _ _ q; rw [e] at this; rw [this]
    | none => simp only [if_true]; exact e
set_option maxHeartbeats 1000000 in
/-- list(x.name(e)), a generator's -/
theorem list_gen {K : Frag} {h₀ : Heap} {prog : Program} {w : World} {n m : Nat} {env : Env} {A : Around} {Z : Zm} {loc : Loc} {H : LH} {s : Shared} {Q' : Value → Shared → Prop} {E : Value → Shared → Prop}
    {C f : Addr} {o e : Expr} {name : String} {apos p1 p2 q : Pos} {names : List String} {fo fe : ET} {Fg : XG} {tot : List PV} {pl : Sem Bool} {Q2 : LH → Prop}
    (G : Gr K h₀) (hGF : GFn K w f names m Fg) (hnl : names.length = 2) (ho : EvOk h₀ prog w n env o fo) (he : EvOk h₀ prog w n env e fe)
    (l1 : nsIn K mainGlobals (Str.ofString "list") = some none) (k1 : env.kindOf (Str.ofString "list") = some .globalImplicit) (hg : env.globals = mainGlobals) (hb : env.builtins = builtinsNs)
    (hpg : plainGet K C (Str.ofString name) = true) (hf : findIn K (.ref C) (Str.ofString name) = some (some (.ref f))) (ht : typeIn K (.ref f) = some (.type "function")) (hk : keepIn K (.ref f) = true)
    (hm : eval (.Call (.Attribute o (Str.ofString name) apos) [e] [] p2) env = (do
      let ov ← eval o env
      standAt apos.atName
      let (f, first) ← holding [ov] (getMethod ov (Str.ofString name) pl)
      callWith p2 f first (backTo p2 (starEach [e] env)) []))
    (hs1 : starEach [.Call (.Attribute o (Str.ofString name) apos) [e] [] p2] env = (false, eval (.Call (.Attribute o (Str.ofString name) apos) [e] [] p2) env) :: starEach [] env)
    (hs2 : starEach [e] env = (false, eval e env) :: starEach [] env) (hp1 : (backTo p1 (starEach [] env)).any (·.1) = false) (hp2 : (backTo p2 (starEach [] env)).any (·.1) = false)
    (h1 : eval (.Call (.Name (Str.ofString "list") q) [.Call (.Attribute o (Str.ofString name) apos) [e] [] p2] [] p1) env = (do callWith p1 (← eval (.Name (Str.ofString "list") q) env) [] (backTo p1 (starEach [.Call (.Attribute o (Str.ofString name) apos) [e] [] p2] env)) (backToKw p1 (keywordEach [] env))))
    (rm : Rm n A) (hd : A.in1.in1.depth < recursionLimit) (ga : ∀ body env', GA m A.in1.in1.in1 (.func body env') []) (hn : tot.length ≤ 100000) (S : Sat h₀ Z env loc H s.heap)
    (fq : fo ⟨loc, H⟩ fun p H₁ => ∃ fs, p = .obj C fs ∧ fs.lookup name = none ∧ fe ⟨loc, H₁⟩ fun r H₂ => ∃ a l, [r] = [PV.ref a] ∧ H₂ a = some l ∧ Fg ⟨argLoc names [.obj C fs, .lst l.xs], fun _ => none⟩ tot GEnd ∧ Q2 H₂)
    (hq : ∀ L s' Z' H', Sat h₀ Z' env loc H' s'.heap → VR Z' (.lst tot) (.ref L) → Q2 H' → (∀ b o, s.heap.get? b = some o → s'.heap.get? b = some o) → (∃ h tk, s' = { s with heap := h, gens := s.gens.push .finished, toks := tk }) → Q' (.ref L) s') :
    wpAny (model prog w) A (eval (.Call (.Name (Str.ofString "list") q) [.Call (.Attribute o (Str.ofString name) apos) [e] [] p2] [] p1) env) Q' E s := by
  refine Call_ (nm_list G l1 k1 hg hb A Z loc H s _ _ S ?_) h1
  have key : wpAny (model prog w) A (spliced (backTo p1 (starEach [.Call (.Attribute o (Str.ofString name) apos) [e] [] p2] env))) (fun vs s₁ => (∀ b o, h₀.get? b = some o → s₁.heap.get? b = some o) ∧ wpAny (model prog w) A (call (.type "list") ([] ++ vs)) Q' E s₁) E s := by
    refine wpAny_items_cons (MethodCall_ (pl := pl) (ho A Z loc H s _ _ _ rm S fq fun x a Z₁ H₁ s₁ k₁ va f₁ => ?_) hm) hs1
    obtain ⟨fs, rfl, hno, f₁⟩ := f₁
    obtain ⟨y, dx, es, kk, rfl, zx, zdx, fr⟩ := va.objInv
    have I : InstAt s₁.heap y (instObj C dx) C (some (dictOf es kk)) := ⟨k₁.sat.frz _ _ zx, rfl, rfl, k₁.sat.frz _ _ zdx⟩
    refine method_fn (f := f) (G.X.keeps k₁.sat.keep) I (plainGet_of hpg).1 (plainGet_of hpg).2 hf ht (by show (lookIn _ (dictOf es kk)).map _ = _; rw [lookIn_dict, fr.not hno]; rfl) ?_
    refine callWith_ok (n := n) (first := [.ref y]) (F := fun σ Q => fe σ fun a H₁ => Q [a] H₁) (Q := fun ps H₂ => ∃ a l, ps = [.ref a] ∧ H₂ a = some l ∧ Fg ⟨argLoc names [.obj C fs, .lst l.xs], fun _ => none⟩ tot GEnd ∧ Q2 H₂) (kpr_K G hk) (es_cons (fr := fun σ Q => Q [] σ.H) he es_nil hs2) rm k₁.sat f₁ (fun vs ps Z₂ H₂ s₂ k₂ v f₂ => ?_) hs2 hp2
    obtain ⟨a, l, rfl, hl, hF, q2⟩ := f₂
    cases v with
    | cons va2 r =>
    cases r
    cases va2
    obtain ⟨za, vs, c, hga, hv⟩ := k₂.sat.obj a l hl
    have zle : Zle Z₂ (Zh s₂.heap) := fun b o e => k₂.sat.frz b o e
    have vps : VRs (Zh s₂.heap) [.obj C fs, .lst l.xs] [.ref y, .ref a] := .cons ((va.mono k₂.fz.1).mono zle) (.cons (.lst hga (hv.mono zle)) .nil)
    refine wpAny_call (hGF prog A s₂ _ _ _ (G.keeps k₂.sat.keep) vps (by rw [hnl]; rfl) (by have := rm.dp; (first | lia | omega)) (fun env' body s₃ nm qn t1 t2 hgb S3 kp => ?_))
    show wpAny (model prog w) A (spliced (backTo p1 (starEach [] env))) _ E _
    refine wpAny_items_nil ⟨fun b o e => Heap.get?_push_of_some _ (kp.get (k₂.sat.keep b o e)), ?_⟩
    have n2 : s₂.heap.get? s₃.heap.objs.size = none := kp.none (get_size s₃.heap)
    refine call_list_gen (g₀ := s₂.heap) (tot := tot) (g := s₃.gens.size) rm.hd hd (G.keeps k₂.sat.keep).nl hn (ga body env') (hgb tot _) hF (S3.keeps fun b o e => Heap.get?_push_of_some _ e) ⟨_, _, _, Heap.get?_push_size _ rfl, rfl, rfl, rfl⟩ (by simp) n2 n2 rfl ?iL ?iC fun s' gd => ?_
    case iL =>
      obtain ⟨o, e⟩ := S3.nsAt
      exact fun h => by rw [← h, get_size] at e; cases e
    case iC =>
      intro m hm
      obtain ⟨_, _, o, e, _⟩ := S3.cellZ m _ hm
      rw [get_size] at e; cases e
    obtain ⟨og, ⟨vs', c', hL, hvs⟩, hgens, h', gs', tk', rfl⟩ := gd
    have A2 := k₂.sat.keeps og
    generalize hgo : (s₃.heap.push { cls := Value.type "generator", data := Data.fields #[Value.int s₃.gens.size 0, Value.str nm t1, Value.str qn t2] }) = hp at *
    have nS : ∀ b o, s₂.heap.get? b = some o → hp.objs.size ≠ b := fun b o e h => by
      have : hp.get? b = some o := by rw [← hgo]; exact Heap.get?_push_of_some _ (kp.get e)
      rw [← h, get_size] at this; cases this
    obtain ⟨B, z1, z2, z3⟩ := A2.tups (S := hp.objs.size) (by obtain ⟨o, e⟩ := k₂.sat.nsAt; exact nS _ _ e) (fun m hm => by obtain ⟨_, _, o, e, _⟩ := k₂.sat.cellZ m _ hm; exact nS _ _ e rfl) (by
      cases e : H₂ hp.objs.size with
      | none => rfl
      | some l' => obtain ⟨_, _, _, e', _⟩ := k₂.sat.obj _ _ e; exact absurd rfl (nS _ _ e'))
    refine hq _ _ _ H₂ B (.lst (z3 _ hL) (hvs.mono z2)) q2 (fun b o e => og b o (k₂.kp.get (k₁.kp.get e))) ⟨h', tk', ?_⟩
    have e1 := k₁.kp
    have e2 := k₂.kp
    clear hL hvs og z1 z2 z3 B A2
    obtain ⟨_, _, rfl, _⟩ := kp
    obtain ⟨_, _, rfl, _⟩ := e2
    obtain ⟨_, _, rfl, _⟩ := e1
    have hgs : gs' = s.gens.push .finished := hgens.trans (push_set _ _ _)
    rw [hgs]
  rw [hs1] at key ⊢
  exact callWith_of (P := fun h => ∀ b o, h₀.get? b = some o → h.get? b = some o) (by show ((false || (backTo p1 (starEach [] env)).any (·.1)) || false) = false; rw [hp1]; rfl) (fun h k => kpr_type (h₀ := h₀) (prog := prog) (w := w) _ h k) (PySem.Calls.evalArgs_plain key)
/-- a for over a known list, its target a tuple -/
theorem iter_T {h₀ : Heap} {prog : Program} {w : World} {n : Nat} {env : Env} {A : Around} {Z : Zm} {loc : Loc} {H : LH} {s : Shared} {elts : List Expr} {tk0} {tpos : Pos} {b : List Stmt} {fa : PV → St → (St → Prop) → Prop} {fb : XT} {xs : List PV} {l : Addr}
    {Q : Fl → St → Prop} {Q' : Flow → Shared → Prop} {E : Value → Shared → Prop} (rm : Rm n A) (S : Sat h₀ Z env loc H s.heap) (va : VR Z (.lst xs) (.ref l))
    (ha : AsOk h₀ prog w env (.Tuple elts tk0 tpos) fa) (hf : ∀ p σ Q, fa p σ Q → ∃ ps, p = .tup ps) (hb : XsOk h₀ prog w n env b fb) (f : forW fa fb xs ⟨loc, H⟩ Q)
    (q : ∀ fl p loc' Z' H' s', Sk h₀ env loc Z H s loc' Z' H' s' → FlR Z' p fl → Q p ⟨loc', H'⟩ → Q' fl s') :
    wpAny (model prog w) A (pyIter (.ref l)) (fun it s₂ => codeAny (model prog w) A (.forLoop (.Tuple elts tk0 tpos) it b [] env) (fun r s' => match r with | .ok f => Q' f s' | .error e => cameBackBy (model prog w) A env E e s') s₂) E s := by
  cases va with
  | lst zl rl =>
  rename_i vs kl
  have ho := S.frz _ _ zl
  have hl : s.heap.IsList l vs.toArray := ⟨_, ho, rfl, _, rfl⟩
  refine wpAny_pyIter_list hl ?_
  have hne : l ≠ s.heap.objs.size := Nat.ne_of_lt (Heap.lt_size ho)
  have W0 := Walks.list (prog := prog) (w := w) rm.hd s.heap.objs.size l hne vs.toArray
  have hn0 : vs.toArray.size = xs.length := by rw [List.size_toArray, rl.length]
  rw [hn0] at W0
  have Wk : Wk prog w A Z xs s.heap.objs.size _ _ _ _ := ⟨W0, fun i v hp => rl.get' (by simpa using hp)⟩
  have hI : s.heap.get? s.heap.objs.size = none := get_size _
  have kp := Kp.push s { cls := .type "list_iterator", data := .fields #[.ref l, .int 0 0] }
  have hst : (s.heap.push { cls := .type "list_iterator", data := .fields #[.ref l, .int 0 0] }).IsListIter s.heap.objs.size l 0 ∧ (s.heap.push { cls := .type "list_iterator", data := .fields #[.ref l, .int 0 0] }).IsList l vs.toArray := ⟨⟨_, Heap.get?_push_size _ rfl, rfl, rfl⟩, hl.at fun o e => Heap.get?_push_of_some _ e⟩
  refine for_core rm S (Ke.refl S) (fun b hb hne => ?_) Wk kp hst hI (fun i h st => let ⟨o, ho, _⟩ := st.1; ⟨o, ho⟩) rfl ha hb (lo_tup hf fun i h st => ⟨_, _, st.1⟩) f q
  rcases List.mem_cons.mp hb with h | h
  · exact absurd h hne
  · rw [List.mem_singleton.mp h]; exact ⟨_, zl⟩
end Mine
end
section
namespace Mine
section
variable {K : Frag} {h₀ : Heap} {prog : Program} {w : World} {n : Nat} {env : Env}
noncomputable def maxOp (ps : List PV) (H : LH) (Q : PV → LH → Prop) : Prop := ∃ i j : Int, ps = [.int i, .int j] ∧ Q (.int (if j > i then j else i)) H
theorem max_ok (loc : Loc) (Z : Zm) (H : LH) (s : Shared) (ps : List PV) (vs : List Value) (S : Sat h₀ Z env loc H s.heap) (v : VRs Z ps vs) : OpOk h₀ prog w n env loc Z H s (call (.builtin "max") vs) (maxOp ps H) := by
  rintro A Q Q' E rm ⟨i, j, rfl, f⟩ q
  obtain ⟨a, b, rfl, va, vb⟩ := v.two
  cases va with
  | int _ t =>
  cases vb with
  | int _ u =>
  refine max_two_ints rm.hd fun h' tk hk => ?_
  have k : Ke h₀ env loc Z H s Z H { s with heap := h', toks := tk } := Ke.keep S ⟨h', tk, rfl, hk⟩
  by_cases hc : j > i
  · rw [if_pos hc] at f ⊢; exact q _ _ _ _ _ k (.int _ _) f
  · rw [if_neg hc] at f ⊢; exact q _ _ _ _ _ k (.int _ _) f
/-- the sum of a list of ints -/
noncomputable def sumOp (ps : List PV) (H : LH) (Q : PV → LH → Prop) : Prop := ∃ (a : PV) (is : List Int), ps = [a] ∧ lstOf H a = some (is.map .int) ∧ Q (.int is.sum) H
theorem VRs.intItems {Z : Zm} : ∀ {is : List Int} {vs : List Value}, VRs Z (is.map .int) vs → ∃ xs : List (Int × Tok), vs = xs.map (fun p => Value.int p.1 p.2) ∧ xs.map (·.1) = is
  | [], _, .nil => ⟨[], rfl, rfl⟩
  | i :: _, _, .cons (.int _ t) r => let ⟨xs, e, f⟩ := VRs.intItems r; ⟨(i, t) :: xs, by rw [e]; rfl, by rw [← f]; rfl⟩
theorem sum_ok (loc : Loc) (Z : Zm) (H : LH) (s : Shared) (ps : List PV) (vs : List Value) (S : Sat h₀ Z env loc H s.heap) (v : VRs Z ps vs) : OpOk h₀ prog w n env loc Z H s (call (.builtin "sum") vs) (sumOp ps H) := by
  rintro A Q Q' E rm ⟨a, is, rfl, hl, f⟩ q
  cases v with
  | cons va r =>
  cases r
  obtain ⟨l, us, k, rfl, ho, r⟩ := lst_at S va hl
  obtain ⟨xs, rfl, rfl⟩ := r.intItems
  have hL : s.heap.IsList l (PySem.intItems xs.toArray) := ⟨_, ho, rfl, k, by simp [PySem.intItems]⟩
  refine sum_intListG rm.hd hL fun h' tk t' hk => ?_
  have e : preSum (numAt xs.toArray) xs.toArray.size = (xs.map (·.1)).sum := by
    rw [preSum_eq]; simp [List.take_of_length_le]
  rw [e]
  exact q _ _ _ _ _ (Ke.keep S ⟨h', tk, rfl, hk⟩) (.int _ _) f
theorem ev_max {p pos : Pos} {e : Expr} {rest : List Expr} {F : EsT} (G : Gr K h₀) (h1 : nsIn K mainGlobals (Str.ofString "max") = some none) (h2 : env.kindOf (Str.ofString "max") = some .globalImplicit) (h3 : env.globals = mainGlobals) (h4 : env.builtins = builtinsNs) (hes : EsOk h₀ prog w n env (e :: rest) F)
    (h5 : starEach (e :: rest) env = (false, eval e env) :: starEach rest env) (h6 : (backTo pos (starEach rest env)).any (·.1) = false)
    (h7 : eval (.Call (.Name (Str.ofString "max") p) (e :: rest) [] pos) env = (do callWith pos (← eval (.Name (Str.ofString "max") p) env) [] (backTo pos (starEach (e :: rest) env)) (backToKw pos (keywordEach [] env)))) :
    EvOk h₀ prog w n env (.Call (.Name (Str.ofString "max") p) (e :: rest) [] pos) (fun σ Q => F σ fun ps H₁ => maxOp ps H₁ Q) :=
  ev_call (fv := .builtin "max") (nm_max G h1 h2 h3 h4) (kpr_builtin _) hes max_ok h5 h6 h7
theorem ev_sum {p pos : Pos} {e : Expr} {rest : List Expr} {F : EsT} (G : Gr K h₀) (h1 : nsIn K mainGlobals (Str.ofString "sum") = some none) (h2 : env.kindOf (Str.ofString "sum") = some .globalImplicit) (h3 : env.globals = mainGlobals) (h4 : env.builtins = builtinsNs) (hes : EsOk h₀ prog w n env (e :: rest) F)
    (h5 : starEach (e :: rest) env = (false, eval e env) :: starEach rest env) (h6 : (backTo pos (starEach rest env)).any (·.1) = false)
    (h7 : eval (.Call (.Name (Str.ofString "sum") p) (e :: rest) [] pos) env = (do callWith pos (← eval (.Name (Str.ofString "sum") p) env) [] (backTo pos (starEach (e :: rest) env)) (backToKw pos (keywordEach [] env)))) :
    EvOk h₀ prog w n env (.Call (.Name (Str.ofString "sum") p) (e :: rest) [] pos) (fun σ Q => F σ fun ps H₁ => sumOp ps H₁ Q) :=
  ev_call (fv := .builtin "sum") (nm_sum G h1 h2 h3 h4) (kpr_builtin _) hes sum_ok h5 h6 h7
end
end Mine
end
namespace Mine
def nthStmt (p : Program) (i : Nat) : Stmt := (p.main.body.drop i).headD (.Pass ⟨0, 0, 0, 0⟩)
def st0 : Stmt := nthStmt PySem.Challenge.pw_dm0063_10 0
def st1 : Stmt := nthStmt PySem.Challenge.pw_dm0063_10 1
def st2 : Stmt := nthStmt PySem.Challenge.pw_dm0063_10 2
def st3 : Stmt := nthStmt PySem.Challenge.pw_dm0063_10 3
def st4 : Stmt := nthStmt PySem.Challenge.pw_dm0063_10 4
def st5 : Stmt := nthStmt PySem.Challenge.pw_dm0063_10 5
def st6 : Stmt := nthStmt PySem.Challenge.pw_dm0063_10 6
def st7 : Stmt := nthStmt PySem.Challenge.pw_dm0063_10 7
def st8 : Stmt := nthStmt PySem.Challenge.pw_dm0063_10 8
def st9 : Stmt := nthStmt PySem.Challenge.pw_dm0063_10 9
def st10 : Stmt := nthStmt PySem.Challenge.pw_dm0063_10 10
def st11 : Stmt := nthStmt PySem.Challenge.pw_dm0063_10 11
def st12 : Stmt := nthStmt PySem.Challenge.pw_dm0063_10 12
def ownProg : Program := { PySem.Challenge.pw_dm0063_10 with main := { PySem.Challenge.pw_dm0063_10.main with body := [st0, st1, st2, st3, st4, st5, st6, st7, st8, st9, st10, st11, st12] } }
def ownRow : OpenLaw := { PySem.Challenge.rw_dm0063_10 with prog := ownProg }
theorem ownRow_eq : ownRow = PySem.Challenge.rw_dm0063_10 := rfl
def KOk (_ : Params → Frag) : Prop := True
theorem kok_of {x y : Params → Frag} (_ : x = y) : KOk x := trivial
/-- a type that hangs on a text -/
noncomputable def TyAt (α : Type) (s : Str) : Type := @Nat.rec (fun _ => Type) (Unit → α) (fun _ _ => Unit) s.cps.size
noncomputable def atTy {α : Type} (s : Str) (h : TyAt α s = (Unit → α)) (x : α) : TyAt α s := cast h.symm fun _ => x
end Mine
section
local macro_rules | `(tactic| o_head (kHook $K $_ $_)) => `(tactic| (assumption; exact $K))
noncomputable def Mine.kcap (hc : OpenRow.Holds (OpenLaw.row Mine.ownRow)) : Params → Frag := by
  refine (fun (_ : OpenRow.Holds (OpenLaw.row Mine.ownRow)) (K : Params → Frag) => K) ?a ?b
  w_on
  k_head
end
namespace Mine
noncomputable def kpart : { f : Params → Frag // KOk f } := (atTy (Str.ofString "") rfl ⟨_, kok_of (y := kcap.heap_1) (by delta kcap.heap_1; exact rfl)⟩ : Unit → { f : Params → Frag // KOk f }) ()
noncomputable def kfrag : Params → Frag := fun P => kpart.1 P
theorem kfrag_eq : kfrag = kcap.heap_1 := rfl
end Mine
local macro_rules | `(tactic| o_head (kHook $_ $as $_)) => `(tactic| o_head (@kHook Mine.kfrag $as (fun _ => by kernel_rfl)))
open_top hd10 for Mine.ownRow
#check @hd10
section
namespace Mine
theorem written10 (w : World) : ∃ Fb, Fn (Mine.kcap.heap_1 w.params) w 124 ["signs"] 5 Fb ∧ ∀ (r : Cells) (p : PV) (H : LH) (Q : PV → LH → Prop), lstOf H p = some (r.map cellP) → okCs r → r.length ≤ 400 → Q (.str (mkS (flat (tok [] r)))) H → callW ["signs"] Fb [p] H Q := by
  refine' ⟨_, Fn.intro ?ho ?hcd ?hkp ?hco ?hgen ?hk ?hbind ?hkind ?hnn ?hnd ?hb, ?_⟩
  case ho => k_is
  case hcd => k_is
  case hkp => k_is
  case hco => rfl
  case hgen => rfl
  case hk => rfl
  case hbind => exact fun s => bind1 fun a => rfl
  case hkind => decide +kernel
  case hnn => decide
  case hnd => decide +kernel
  case hb =>
    intro h₀ prog G L'
    repeat' (first | with_reducible exact ev_int _ _ _ | with_reducible exact ev_str _ _ _ | with_reducible exact ev_none _ _ | with_reducible exact ev_bool _ _ _ | (with_reducible refine' ev_name _ _ ?_ ?_) | (with_reducible refine' ev_binop ?_ ?_) | (with_reducible refine' ev_neg ?_) | (with_reducible refine' ev_cmp ?_ ?_ ?_) | (with_reducible refine' ev_ifexp ?_ ?_ ?_) | (with_reducible refine' ev_list ?_) | (with_reducible refine' ev_tuple ?_) | with_reducible exact es_nil | (with_reducible refine' es_cons ?_ ?_ ?_) | (with_reducible refine' ev_cut ?_ ?_ ?_) | (with_reducible refine' ev_idx ?_ ?_ ?_) | with_reducible exact pt_none | (with_reducible refine' pt_some ?_) | (with_reducible refine' bt_cmp ?_ ?_ ?_) | (with_reducible refine' bt_not ?_) | (with_reducible refine' bt_bool ?_) | with_reducible exact at_and_nil | with_reducible exact at_or_nil | (with_reducible refine' at_and_cons ?_ ?_) | (with_reducible refine' at_or_cons ?_ ?_) | with_reducible exact xs_nil | (with_reducible refine' xs_cons ?_ ?_) | (with_reducible refine' st_assign ?_ ?_ ?_) | (with_reducible refine' st_aug ?_ ?_ ?_) | (with_reducible refine' st_if ?_ ?_ ?_) | (with_reducible refine' st_append ?_ ?_ ?_ ?_ ?_ ?_) | (with_reducible refine' st_augidx ?_ ?_ ?_ ?_) | (with_reducible refine' st_ret ?_) | with_reducible exact st_ret0 | with_reducible exact st_cont | with_reducible exact st_pass | (with_reducible refine' st_while ?_ ?_) | (with_reducible refine' st_for ?_ (as_name ?_) ?_ ?_ ?_) | (with_reducible refine' ev_len (by assumption) ?_ ?_ ?_ ?_ ?_ ?_ ?_ ?_) | (with_reducible refine' ev_chr (by assumption) ?_ ?_ ?_ ?_ ?_ ?_ ?_ ?_) | (with_reducible refine' ev_range (by assumption) ?_ ?_ ?_ ?_ ?_ ?_ ?_ ?_) | (with_reducible refine' ev_abs (by assumption) ?_ ?_ ?_ ?_ ?_ ?_ ?_ ?_) | (with_reducible refine' ev_count _ ?_ ?_ ?_ ?_ ?_) | (with_reducible refine' ev_split _ ?_ ?_ ?_ ?_ ?_) | (with_reducible refine' ev_index _ ?_ ?_ ?_ ?_) | (with_reducible refine' ev_attr (C := 113) (by assumption) ?_ ?_ ?_ ?_ ?_ ?_) | (with_reducible refine' st_forT ?_ (as_tuple2 (as_name ?_) (as_name ?_) ?_ ?_) ?_ ?_ ?_) | (rintro _ _ _ ⟨_, _, rfl, _⟩; exact ⟨_, rfl⟩) | with_reducible exact ts_nil | (with_reducible refine' ts_one ?_) | ((with_reducible show nsIn _ _ _ = _); k_is) | ((with_reducible show plainGet _ _ _ = _); k_is) | ((with_reducible show hasDictIn _ _ = _); k_is) | ((with_reducible show findIn _ _ _ = _); k_is) | ((with_reducible show noGet _ _ = _); k_is) | ((with_reducible show Stores _ _); first | exact Or.inl rfl | exact Or.inr ⟨rfl, rfl⟩) | ((with_reducible show (_ == _) = false); decide) | ((with_reducible show behindInMarks _ _ = _); with_unfolding_all rfl) | ((with_reducible show _ ≤ _); decide) | ((with_reducible show _ = _); rfl) | ((with_reducible show ∀ _, _ = _); intro _; rfl) | ((with_reducible show ∀ _ _, _ = _); intro _ _; rfl) | ((with_reducible show ∀ _ _ _, _ = _); intro _ _ _; rfl) | (with_reducible refine' bt_val ?_ ?_))
  intro r p H Q hp hr hl hq
  unfold callW
  refine seq_to ⟨(argLoc ["signs"] [p]).set "text" (.str (Str.ofString "")), H.ro⟩ (fun R hR => hR) ?_
  refine seq_to ⟨((argLoc ["signs"] [p]).set "text" (.str (Str.ofString ""))).set "now" (.str (Str.ofString "")), H.ro⟩ (fun R hR => hR) ?_
  refine seq_ex (fun σ => σ.loc "text" = some (.str (mkS (flat (tok [] r)))) ∧ σ.H = H.ro) (fun R hR => ?_) (fun σ h => seq_ret σ (fun R hR => get_W h.1 hR) (.inl hq))
  refine get_W (show _ = some p from rfl) ⟨by decide, by decide, listW_lst (bin_addXL (lstOf_ro hp) (by rw [List.length_map, sizeLine_eq]; simp; (first | lia | omega)) (listW_lst ⟨_, rfl, ?_⟩))⟩
  simp only [ofS0, ofS1, ofSe]
  refine forW_inv (fun rest σ => (∃ (D : List Tk) (todo : Cells), rest = todo.map cellP ++ [.tup [.str (mkS []), .str (mkS [])]] ∧ σ.loc "text" = some (.str (mkS (flat D))) ∧ σ.loc "now" = some (.str (mkS (mkF [] D))) ∧ PW [] D ∧ D ++ tok (mkF [] D) todo = tok [] r ∧ okCs todo ∧ (flat D).length + 4 * todo.length ≤ 1604 ∧ σ.H = H.ro) ∨ (rest = [] ∧ σ.loc "text" = some (.str (mkS (flat (tok [] r)))) ∧ σ.H = H.ro)) ?step ?fin _ _ ?init
  case init => exact .inl ⟨[], r, rfl, rfl, rfl, trivial, rfl, hr, by simp [flat]; (first | lia | omega), rfl⟩
  case fin =>
    rintro σ (⟨D, todo, er, _⟩ | ⟨_, l1, l4⟩)
    · cases todo <;> cases er
    · exact hR σ ⟨l1, l4⟩
  case step =>
    intro p rr σ K hI kn kc
    refine hide fun Gh kh => ?_
    obtain ⟨D, s, m, rfl, l1, l2, l4, hs, hm, hlen, hfin⟩ : ∃ (D : List Tk) (s m : List Nat), p = .tup [.str (mkS s), .str (mkS m)] ∧ σ.loc "text" = some (.str (mkS (flat D))) ∧ σ.loc "now" = some (.str (mkS (mkF [] D))) ∧ σ.H = H.ro ∧ s.length ≤ 1 ∧ m.length ≤ 1 ∧ (flat D).length + (post (mkF [] D)).length + (pre m).length + s.length ≤ 2000 ∧
        ∀ σ', σ'.loc "text" = some (.str (mkS (flat D ++ (if m = mkF [] D then [] else post (mkF [] D) ++ pre m) ++ s))) → σ'.loc "now" = some (.str (mkS m)) → σ'.H = H.ro → K .next σ' := by
      clear kh
      rcases hI with ⟨D, todo, er, l1, l2, hD, htok, hok, hlen, l4⟩ | ⟨er, _, _⟩
      · have hpo := post_len (mkF [] D)
        cases todo with
        | nil =>
          cases er
          simp only [List.length_nil] at hlen
          refine ⟨D, [], [], rfl, l1, l2, l4, by simp, by simp, by simp [pre]; (first | lia | omega), fun σ' k1 k2 k3 => kn _ (.inr ⟨rfl, ?_, k3⟩)⟩
          rw [k1, ← htok]
          by_cases hne : ([] : List Nat) = mkF [] D
          · rw [if_pos hne, ← hne]; simp [tok]
          · rw [if_neg hne, flat_app, tok_nil_flat]; simp [pre]
        | cons x todo =>
          cases er
          obtain ⟨c, m⟩ := x
          have hx : 2 ≤ c ∧ isMk m := hok (c, m) List.mem_cons_self
          have hm1 : m.length ≤ 1 := by rcases hx.2 with e | ⟨k, _, e⟩ <;> rw [e] <;> simp
          have hpl := pre_len m hx.2
          obtain ⟨f1, f2, f3, f4⟩ := swT_ok D m hD hx.2
          simp only [List.length_cons] at hlen
          refine ⟨D, [c], m, rfl, l1, l2, l4, by simp, hm1, by simp; (first | lia | omega), fun σ' k1 k2 k3 => kn _ (.inl ?_)⟩
          by_cases hne : m = mkF [] D
          · rw [if_pos hne, List.append_nil] at k1
            exact ⟨D ++ [.sg c], todo, rfl, by rw [k1, flat_app]; rfl, by rw [k2, mkF_app, hne]; rfl, by rw [PW_app]; exact ⟨hD, hx.1, trivial⟩, by rw [← htok]; simp [tok, sw1, hne, mkF_app, mkF], fun y hy => hok y (List.mem_cons_of_mem _ hy), by rw [flat_app, List.length_append]; show _ + 1 + _ ≤ _; (first | lia | omega), k3⟩
          · rw [if_neg hne] at k1
            exact ⟨D ++ swT (mkF [] D) m ++ [.sg c], todo, rfl, by rw [k1, flat_app _ [Tk.sg c], f3, ← List.append_assoc]; rfl, by rw [k2, mkF_app, f2]; rfl, by rw [PW_app, f2]; exact ⟨f1, hx.1, trivial⟩, by rw [← htok, mkF_app, f2]; simp [tok, sw1, hne, mkF], fun y hy => hok y (List.mem_cons_of_mem _ hy), by rw [flat_app, f3, List.length_append, List.length_append, List.length_append]; show _ + 1 + _ ≤ _; (first | lia | omega), k3⟩
      · cases er
    refine kh ?_
    clear kh Gh hI kn kc
    refine ⟨_, _, rfl, ?_⟩
    refine seq_ex (fun σ' => σ'.loc "text" = some (.str (mkS (flat D ++ (if m = mkF [] D then [] else post (mkF [] D) ++ pre m)))) ∧ σ'.loc "sign" = some (.str (mkS s)) ∧ σ'.loc "now" = some (.str (mkS m)) ∧ σ'.H = H.ro) (fun R hR => ?_) (fun σ' h => ?_)
    · refine get_W (show _ = some (PV.str (mkS m)) from rfl) (get_W (show _ = some _ from l2) (cmp_neS ?_))
      by_cases hne : m = mkF [] D
      · rw [if_neg (by rw [hne]; simp)]
        exact hR _ ⟨by rw [if_pos hne, List.append_nil]; exact l1, rfl, by rw [hne]; exact l2, l4⟩
      · rw [if_pos (by rw [bne, mkS_beq]; simpa using hne)]
        refine seq_to ⟨((σ.loc.set "sign" (.str (mkS s))).set "mark" (.str (mkS m))).set "text" (.str (mkS (flat D ++ post (mkF [] D)))), σ.H⟩ (fun R' hR' => ?a1) ?a2
        case a1 =>
          refine get_W (show _ = some _ from l1) (get_W (show _ = some _ from l2) (cmp_neS (ifexp_post (R := fun v => inW .Add (.str _) v _ _) (in_addS (by rw [mkS_len, mkS_len, sizeLine_eq]; (first | lia | omega)) ?_))))
          rw [mkS_append]; exact hR'
        case a2 =>
          refine seq_to ⟨(((σ.loc.set "sign" (.str (mkS s))).set "mark" (.str (mkS m))).set "text" (.str (mkS (flat D ++ post (mkF [] D))))).set "text" (.str (mkS (flat D ++ post (mkF [] D) ++ pre m))), σ.H⟩ (fun R' hR' => ?b1) ?b2
          case b1 =>
            refine get_W (show _ = some (PV.str (mkS (flat D ++ post (mkF [] D)))) from rfl) (get_W (show _ = some (PV.str (mkS m)) from rfl) (cmp_neS ?_))
            refine ifexp_preG (R := fun v H => inW .Add (.str (mkS (flat D ++ post (mkF [] D)))) v H _) hm (show _ = some (PV.str (mkS m)) from rfl) (in_addS (by rw [mkS_len, mkS_len, sizeLine_eq, List.length_append]; (first | lia | omega)) ?_)
            rw [mkS_append]
            exact hR'
          case b2 => exact get_W (show _ = some (PV.str (mkS m)) from rfl) (hR _ ⟨by rw [if_neg hne, ← List.append_assoc]; rfl, rfl, rfl, l4⟩)
    · obtain ⟨k1, k2, k3, k4⟩ := h
      refine get_W k1 (get_W k2 (in_addS ?_ ?_))
      · rw [mkS_len, mkS_len, sizeLine_eq, List.length_append]
        split
        · simp only [List.length_nil]; (first | lia | omega)
        · rw [List.length_append]; (first | lia | omega)
      · rw [mkS_append]
        exact hfin _ rfl k3 k4
end Mine
namespace Mine
theorem read10 (w : World) : ∃ Fb, Fn (Mine.kcap.heap_1 w.params) w 131 ["text"] 5 Fb ∧ ∀ (T : List Tk) (H : LH) (Q : PV → LH → Prop), PW [] T → mkF [] T = [] → (flat T).length ≤ 6000 → Q (.lst ((cellsOf [] T).map cellP)) H → callW ["text"] Fb [.str (mkS (flat T))] H Q := by
  refine' ⟨_, Fn.intro ?ho ?hcd ?hkp ?hco ?hgen ?hk ?hbind ?hkind ?hnn ?hnd ?hb, ?_⟩
  case ho => k_is
  case hcd => k_is
  case hkp => k_is
  case hco => rfl
  case hgen => rfl
  case hk => rfl
  case hbind => exact fun s => bind1 fun a => rfl
  case hkind => decide +kernel
  case hnn => decide
  case hnd => decide +kernel
  case hb =>
    intro h₀ prog G L'
    repeat' (first | with_reducible exact ev_int _ _ _ | with_reducible exact ev_str _ _ _ | with_reducible exact ev_none _ _ | with_reducible exact ev_bool _ _ _ | (with_reducible refine' ev_name _ _ ?_ ?_) | (with_reducible refine' ev_binop ?_ ?_) | (with_reducible refine' ev_neg ?_) | (with_reducible refine' ev_cmp ?_ ?_ ?_) | (with_reducible refine' ev_ifexp ?_ ?_ ?_) | (with_reducible refine' ev_list ?_) | (with_reducible refine' ev_tuple ?_) | with_reducible exact es_nil | (with_reducible refine' es_cons ?_ ?_ ?_) | (with_reducible refine' ev_cut ?_ ?_ ?_) | (with_reducible refine' ev_idx ?_ ?_ ?_) | with_reducible exact pt_none | (with_reducible refine' pt_some ?_) | (with_reducible refine' bt_cmp ?_ ?_ ?_) | (with_reducible refine' bt_not ?_) | (with_reducible refine' bt_bool ?_) | with_reducible exact at_and_nil | with_reducible exact at_or_nil | (with_reducible refine' at_and_cons ?_ ?_) | (with_reducible refine' at_or_cons ?_ ?_) | with_reducible exact xs_nil | (with_reducible refine' xs_cons ?_ ?_) | (with_reducible refine' st_assign ?_ ?_ ?_) | (with_reducible refine' st_aug ?_ ?_ ?_) | (with_reducible refine' st_if ?_ ?_ ?_) | (with_reducible refine' st_append ?_ ?_ ?_ ?_ ?_ ?_) | (with_reducible refine' st_augidx ?_ ?_ ?_ ?_) | (with_reducible refine' st_ret ?_) | with_reducible exact st_ret0 | with_reducible exact st_cont | with_reducible exact st_pass | (with_reducible refine' st_while ?_ ?_) | (with_reducible refine' st_for ?_ (as_name ?_) ?_ ?_ ?_) | (with_reducible refine' ev_len (by assumption) ?_ ?_ ?_ ?_ ?_ ?_ ?_ ?_) | (with_reducible refine' ev_chr (by assumption) ?_ ?_ ?_ ?_ ?_ ?_ ?_ ?_) | (with_reducible refine' ev_range (by assumption) ?_ ?_ ?_ ?_ ?_ ?_ ?_ ?_) | (with_reducible refine' ev_abs (by assumption) ?_ ?_ ?_ ?_ ?_ ?_ ?_ ?_) | (with_reducible refine' ev_count _ ?_ ?_ ?_ ?_ ?_) | (with_reducible refine' ev_split _ ?_ ?_ ?_ ?_ ?_) | (with_reducible refine' ev_index _ ?_ ?_ ?_ ?_) | (with_reducible refine' ev_attr (C := 113) (by assumption) ?_ ?_ ?_ ?_ ?_ ?_) | (with_reducible refine' st_forT ?_ (as_tuple2 (as_name ?_) (as_name ?_) ?_ ?_) ?_ ?_ ?_) | (rintro _ _ _ ⟨_, _, rfl, _⟩; exact ⟨_, rfl⟩) | with_reducible exact ts_nil | (with_reducible refine' ts_one ?_) | ((with_reducible show nsIn _ _ _ = _); k_is) | ((with_reducible show plainGet _ _ _ = _); k_is) | ((with_reducible show hasDictIn _ _ = _); k_is) | ((with_reducible show findIn _ _ _ = _); k_is) | ((with_reducible show noGet _ _ = _); k_is) | ((with_reducible show Stores _ _); first | exact Or.inl rfl | exact Or.inr ⟨rfl, rfl⟩) | ((with_reducible show (_ == _) = false); decide) | ((with_reducible show behindInMarks _ _ = _); with_unfolding_all rfl) | ((with_reducible show _ ≤ _); decide) | ((with_reducible show _ = _); rfl) | ((with_reducible show ∀ _, _ = _); intro _; rfl) | ((with_reducible show ∀ _ _, _ = _); intro _ _; rfl) | ((with_reducible show ∀ _ _ _, _ = _); intro _ _ _; rfl) | (with_reducible refine' bt_val ?_ ?_))
  intro T H Q hP hc hl hq
  unfold callW
  refine seq_ex (fun σ => ∃ a, σ.loc "signs" = some (.ref a) ∧ σ.H a = some ⟨true, []⟩ ∧ σ.loc "text" = some (.str (mkS (flat T)))) (fun R hR => ⟨by decide, listW_ref fun a ha => hR _ ⟨a, rfl, LH.set_self _ _ _, rfl⟩⟩) ?_
  rintro σ ⟨a, n1, n2, n3⟩
  refine seq_to ⟨σ.loc.set "mark" (.str (Str.ofString "")), σ.H⟩ (fun R hR => hR) ?_
  refine seq_to ⟨(σ.loc.set "mark" (.str (Str.ofString ""))).set "k" (.int 0), σ.H⟩ (fun R hR => hR) ?_
  refine seq_ex (fun σ => σ.loc "mark" = some (.str (mkS [])) ∧ σ.loc "signs" = some (.ref a) ∧ σ.H a = some ⟨true, (cellsOf [] T).map cellP⟩) (fun R hR => ?_) (fun σ h => ?_)
  · rw [ofS0, ofS1, ofSe]
    refine whileW_inv (fun k σ => ∃ D E, T = D ++ E ∧ E.length = k ∧ σ.loc "text" = some (.str (mkS (flat T))) ∧ σ.loc "k" = some (.int ((flat D).length : Nat)) ∧ σ.loc "mark" = some (.str (mkS (mkF [] D))) ∧ σ.loc "signs" = some (.ref a) ∧ σ.H a = some ⟨true, (cellsOf [] D).map cellP⟩) ?step T.length _ ?init
    case init => exact ⟨[], T, rfl, rfl, n3, rfl, rfl, n1, n2⟩
    case step =>
      intro k σ K hI kn kc
      refine hide fun Gh kh => ?_
      obtain ⟨D, E, eT, hE, l1, l2, l3, l4, l5⟩ := hI
      have e : flat T = flat D ++ flat E := by rw [eT, flat_app]
      have hPD := hP
      rw [eT, PW_app] at hPD
      have hcv : (cellsOf [] D).length ≤ (flat D).length := by rw [cellsOf_len]; have := flat_len [] D hPD.1; (first | lia | omega)
      have hle : (flat D).length ≤ (flat T).length := by rw [e, List.length_append]; (first | lia | omega)
      refine kh ?_
      clear kh Gh kc
      refine get_W l2 (get_W l1 (len_S (by rw [mkS_len]; (first | lia | omega)) (cmp_ltI ?_)))
      rw [mkS_len]
      cases E with
      | nil =>
        rw [List.append_nil] at eT
        subst eT
        refine PySem.W.ite_neg (by simp) (hR _ ⟨by rw [l3, hc], l4, l5⟩)
      | cons t E =>
        have hlt : (flat D).length < (flat T).length := by rw [e, List.length_append]; cases t <;> simp [flat, Tk.f]
        have hkn : ∀ σ', σ'.loc "text" = some (.str (mkS (flat T))) → σ'.loc "k" = some (.int ((flat (D ++ [t])).length : Nat)) → σ'.loc "mark" = some (.str (mkS (mkF [] (D ++ [t])))) → σ'.loc "signs" = some (.ref a) → σ'.H a = some ⟨true, (cellsOf [] (D ++ [t])).map cellP⟩ → K .next σ' :=
          fun σ' q1 q2 q3 q4 q5 => kn E.length σ' (by rw [← hE]; simp) ⟨D ++ [t], E, by rw [eT]; simp, rfl, q1, q2, q3, q4, q5⟩
        clear kn
        rw [flat_app, mkF_app, cellsOf_app, List.length_append] at hkn
        refine PySem.W.ite_pos (decide_eq_true (by (first | lia | omega))) ?_
        cases t with
        | op j =>
          have hm : mkF [] D = [] := hPD.2.1
          rw [hm] at l3 hkn
          have hg0 : (flat T)[(flat D).length]? = some 0 := by rw [e]; exact get_app (flat D) (flat (.op j :: E)) 0
          have hg1 : (flat T).drop ((flat D).length + 1) = j :: flat E := by rw [e, List.drop_append]; simp [flat, Tk.f]
          have hlen : (flat D).length + 2 ≤ (flat T).length := by rw [e, List.length_append]; simp [flat, Tk.f]
          have hcut : scut (mkS (flat T)) (some (((flat D).length + 1 : Nat) : Int)) (some ((((flat D).length + 1 : Nat) : Int) + 1)) = mkS [j] := by
            rw [scut_mk, show ((((flat D).length + 1 : Nat) : Int) + 1) = (((flat D).length + 2 : Nat) : Int) from rfl, cut_both _ _ _ (by (first | lia | omega)) (by (first | lia | omega)), hg1, show (flat D).length + 2 - ((flat D).length + 1) = 1 by (first | lia | omega)]; rfl
          refine seq_to ⟨(σ.loc.set "k" (.int (((flat D).length + 1 : Nat) : Int))).set "mark" (.str (mkS [j])), σ.H⟩ (fun R hR => ?_) ?_
          · refine get_W l1 (get_W l2 (idx_S hg0 (by (first | lia | omega)) (cmp_eqS (PySem.W.ite_pos (by rw [mkS_beq]; rfl) (get_W l3 (cmp_eqS (PySem.W.ite_pos (by rw [mkS_beq]; rfl) ?_)))))))
            refine PySem.W.ite_pos rfl (seq_to ⟨σ.loc.set "k" (.int (((flat D).length + 1 : Nat) : Int)), σ.H⟩ (fun R' hR' => get_W l2 (in_addI hR')) ?_)
            refine get_W l1 (get_W rfl ⟨_, rfl, get_W rfl (bin_addI ⟨_, rfl, cut_S (by rw [mkS_len, sizeLine_eq]; (first | lia | omega)) ?_⟩)⟩)
            rw [hcut]
            exact hR
          · exact get_W rfl (in_addI (hkn _ l1 rfl rfl l4 (by rw [l5]; simp [cellsOf])))
        | cl =>
          have hm : mkF [] D ≠ [] := hPD.2.1
          have hg0 : (flat T)[(flat D).length]? = some 1 := by rw [e]; exact get_app (flat D) (flat (.cl :: E)) 0
          refine seq_to ⟨σ.loc.set "mark" (.str (mkS [])), σ.H⟩ (fun R hR => ?_) ?_
          · refine get_W l1 (get_W l2 (idx_S hg0 (by (first | lia | omega)) (cmp_eqS (PySem.W.ite_neg (by rw [mkS_beq]; decide) (PySem.W.ite_neg (by decide) ?_)))))
            refine get_W l1 (get_W l2 (idx_S hg0 (by (first | lia | omega)) (cmp_eqS (PySem.W.ite_pos (by rw [mkS_beq]; rfl) (get_W l3 (cmp_neS (PySem.W.ite_pos (by rw [ne_nilS]; simpa using hm) hR)))))))
          · exact get_W l2 (in_addI (hkn _ l1 rfl rfl l4 (by rw [l5]; simp [cellsOf])))
        | sg c =>
          have hc2 : 2 ≤ c := hPD.2.1
          have hg0 : (flat T)[(flat D).length]? = some c := by rw [e]; exact get_app (flat D) (flat (.sg c :: E)) 0
          refine seq_to ⟨σ.loc, σ.H.set a ⟨true, (cellsOf [] D ++ [(c, mkF [] D)]).map cellP⟩⟩ (fun R hR => ?_) ?_
          · refine get_W l1 (get_W l2 (idx_S hg0 (by (first | lia | omega)) (cmp_eqS (PySem.W.ite_neg (by rw [mkS_beq]; simp; (first | lia | omega)) (PySem.W.ite_neg (by decide) ?_)))))
            refine get_W l1 (get_W l2 (idx_S hg0 (by (first | lia | omega)) (cmp_eqS (PySem.W.ite_neg (by rw [mkS_beq]; simp; (first | lia | omega)) (PySem.W.ite_neg (by decide) ?_)))))
            refine get_W l4 ⟨a, _, rfl, l5, get_W l1 (get_W l2 (idx_S hg0 (by (first | lia | omega)) (get_W l3 ⟨by rw [sizeLine_eq]; simp, _, l5, by rw [List.length_map, sizeLine_eq]; (first | lia | omega), ?_⟩)))⟩
            rw [List.map_append] at hR
            exact hR
          · exact get_W l2 (in_addI (hkn _ l1 rfl l3 l4 (LH.set_self _ _ _)))
  · obtain ⟨m1, m2, m3⟩ := h
    refine get_W m1 (cmp_eqS ?_)
    rw [ofSe]
    exact PySem.W.ite_pos (by rw [mkS_beq]; rfl) (get_W m2 (.inr ⟨a, _, rfl, m3, hq⟩))
end Mine
namespace Mine
set_option maxHeartbeats 4000000 in
theorem html_make {w : World} {h₀ : Heap} {prog : Program} {env : Env} {A : Around} {Z : Zm} {loc : Loc} {H : LH} {s : Shared} {v1 v2 : Value} {Q' : Value → Shared → Prop} {E : Value → Shared → Prop} {n : Nat}
    (G : Gr (Mine.kcap.heap_1 w.params) h₀) (rm : Rm (n + 2) A) (S : Sat h₀ Z env loc H s.heap)
    (hq : ∀ x dx es k s', Kp s s' → s.heap.get? x = none → s.heap.get? dx = none → x ≠ dx → s'.heap.get? x = some (instObj 113 dx) → s'.heap.get? dx = some (dictOf es k) → (∃ h1 h2 h3 h4 t1 t2 t3 t4, es = [⟨h1, .str (Str.ofString "_tabsize") t1, v1⟩, ⟨h2, .str (Str.ofString "_wrapcolumn") t2, v2⟩, ⟨h3, .str (Str.ofString "_linejunk") t3, .none⟩, ⟨h4, .str (Str.ofString "_charjunk") t4, .ref 29⟩]) → Q' (.ref x) s') :
    wpAny (model prog w) A (call (.ref 113) [v1, v2]) Q' E s := by
  have X : (Mine.kcap.heap_1 w.params).In s.heap := G.X.keeps S.keep
  have NL := G.nl.keeps S.keep
  refine wpAny_call ?_
  obtain ⟨h, g, d, t, os⟩ := s
  refine make_core (makes_of X (by k_is)) (looks_findIn X (by k_is)) (fun self => bind_fn X self (by k_is)) (.inl rfl) ?_
  have k1 : ∀ b o, h.get? b = some o → ((h.push emptyDict).push (instObj 113 h.objs.size)).get? b = some o := fun b o e => Heap.get?_push_of_some _ (Heap.get?_push_of_some _ e)
  have X1 := X.keeps k1
  have hdx : ((h.push emptyDict).push (instObj 113 h.objs.size)).get? h.objs.size = some emptyDict := Heap.get?_push_of_some _ (Heap.get?_push_size _ rfl)
  have hx : ((h.push emptyDict).push (instObj 113 h.objs.size)).get? (h.objs.size + 1) = some (instObj 113 h.objs.size) := by
    have : (h.push emptyDict).objs.size = h.objs.size + 1 := Heap.size_push _ _
    rw [← this]; exact Heap.get?_push_size _ rfl
  generalize hH : (h.push emptyDict).push (instObj 113 h.objs.size) = H1 at *
  refine' enter_raw X1 (NL.keeps k1) ?ho ?hcd ?hco ?hgen ?hk ?hbind ?hcell ?hloc ?hroom (fun h₁ hns hk₁ => ?_)
  case ho => k_is
  case hcd => k_is
  case hbind => exact binds_K X1 rfl (by k_is) rfl rfl rfl
  case hcell => decide
  case hloc => exact locs rfl
  case hco => exact rfl
  case hgen => exact rfl
  case hk => exact rfl
  case hroom => simp only [depth_under_make]; have := rm.dp; (first | lia | omega)
  have F : Fr h _ h₁ _ := ⟨hns, fun b o e => hk₁ _ _ (k1 _ _ e), by show h.objs.size ≤ H1.objs.size; exact Nat.le_of_lt (Nat.lt_of_le_of_lt (Nat.le_succ _) (Heap.lt_size hx))⟩
  have N : News h H1.objs.size h₁ [(h.objs.size + 1, instObj 113 h.objs.size), (h.objs.size, dictOf [] 0)] := by
    intro p hp
    rcases List.mem_cons.mp hp with rfl | hp
    · exact ⟨hk₁ _ _ hx, Nat.ne_of_lt (Heap.lt_size hx), Heap.get?_none_of_le (Nat.le_succ _)⟩
    · rcases List.mem_cons.mp hp with rfl | hp
      · exact ⟨hk₁ _ _ hdx, Nat.ne_of_lt (Heap.lt_size hdx), Heap.get?_none_of_le (Nat.le_refl _)⟩
      · cases hp
  have ne : h.objs.size + 1 ≠ h.objs.size := by (first | lia | omega)
  have keep := F.keep
  clear hns hk₁
  iterate 4
    refine' init_store F X N ne ?hk ?hyl ?hym ?hyd ?hzl ?hzm ?hzd ?hs ?hp ?ht ?hh ?hl ?e ?hlen (fun h' hsh t tk F N => ?_) ?hsw
    case hk => exact rfl
    case hyl => exact rfl
    case hym => exact rfl
    case hyd => decide +kernel
    case hzl => exact rfl
    case hzm => exact rfl
    case hzd => decide +kernel
    case hs => k_is
    case hp => k_is
    case ht => k_is
    case hh => k_is
    case hl => exact rfl
    case e => exact fun _ _ => rfl
    case hlen => simp
    case hsw => exact rfl
    simp only [List.nil_append, List.cons_append, Nat.zero_add, Nat.reduceAdd] at N
  refine wpAny_execs_nil ?_
  refine ⟨rfl, ?_⟩
  refine hq (h.objs.size + 1) h.objs.size _ _ _ ⟨h', _, rfl, F.keep⟩ (Heap.get?_none_of_le (Nat.le_succ _)) (Heap.get?_none_of_le (Nat.le_refl _)) ne (N.get (.head _)) (N.get (.tail _ (.head _))) ⟨_, _, _, _, _, _, _, _, rfl⟩
theorem html_op {w : World} {h₀ : Heap} {prog : Program} {env : Env} {n : Nat} (G : Gr (Mine.kcap.heap_1 w.params) h₀) :
    ∀ (loc : Loc) (Z : Zm) (H : LH) (s : Shared) (ps : List PV) (vs : List Value), Sat h₀ Z env loc H s.heap → VRs Z ps vs → OpOk h₀ prog w (n + 2) env loc Z H s (call (.ref 113) vs)
      (fun Q => ∃ size wr : Int, ps = [.int size, .int wr] ∧ Q (.obj 113 [("_tabsize", .int size), ("_wrapcolumn", .int wr), ("_linejunk", .none), ("_charjunk", .raw (.ref 29))]) H) := by
  intro loc Z H s ps vs S hv A Q Q' E rm hW q
  obtain ⟨size, wr, rfl, hQ⟩ := hW
  cases hv with
  | cons a r =>
    cases r with
    | cons b r =>
    cases r
    cases b with
    | int _ t' =>
    cases a with
    | int _ t =>
      refine html_make G rm S fun x dx es k s' kp hx hdx hne ex edx hes => ?_
      obtain ⟨h1, h2, h3, h4, t1, t2, t3, t4, rfl⟩ := hes
      have k1 := Ke.frozen S kp hx ex
      have hZd : (Z.set x (instObj 113 dx)) dx = none := by
        unfold Zm.set; rw [if_neg (Ne.symm hne)]
        cases r : Z dx with
        | none => rfl
        | some o => have := S.frz dx o r; rw [hdx] at this; cases this
      have nl : ∀ o, s.heap.get? dx ≠ some o := fun o e => by rw [hdx] at e; cases e
      have S2 := k1.sat.addFrozen edx (fun e => by obtain ⟨o, eo⟩ := S.nsAt; rw [e] at eo; exact nl o eo) (fun m c hm e => by obtain ⟨_, _, o, eo, _⟩ := S.cellZ m c hm; rw [e] at eo; exact nl o eo) hZd (by
        cases r : H dx with
        | none => rfl
        | some l => obtain ⟨_, _, _, eo, _⟩ := S.obj dx l r; exact absurd eo (nl _))
      have hz := Zm.le_set (dictOf [⟨h1, .str (Str.ofString "_tabsize") t1, .int size t⟩, ⟨h2, .str (Str.ofString "_wrapcolumn") t2, .int wr t'⟩, ⟨h3, .str (Str.ofString "_linejunk") t3, .none⟩, ⟨h4, .str (Str.ofString "_charjunk") t4, .ref 29⟩] k) hZd
      refine q _ _ _ _ _ ⟨S2, kp, ⟨k1.fz.1.trans hz, fun a ha ha' => ?_⟩, FreshH.refl s H⟩ (.obj (hz _ _ (Zm.set_self _ _ _)) (Zm.set_self _ _ _) ?_) hQ
      · by_cases e : a = dx
        · rw [e]; exact hdx
        · refine k1.fz.2 a ha ?_
          unfold Zm.set at ha' ⊢
          rw [if_neg e] at ha'; exact ha'
      · exact .cons (.int _ _) rfl (.cons (.int _ _) rfl (.cons .none rfl (.cons (.raw _) rfl .nil)))
theorem ev_html {w : World} {h₀ : Heap} {prog : Program} {env : Env} {n : Nat} {p pos : Pos} {e : Expr} {rest : List Expr} {F : EsT} (G : Gr (Mine.kcap.heap_1 w.params) h₀) (hn : 2 ≤ n) (hx : env.kindOf (Str.ofString "HtmlDiff") = some .globalImplicit) (hg : env.globals = mainGlobals) (hes : EsOk h₀ prog w n env (e :: rest) F)
    (h5 : starEach (e :: rest) env = (false, eval e env) :: starEach rest env) (h6 : (backTo pos (starEach rest env)).any (·.1) = false)
    (h7 : eval (.Call (.Name (Str.ofString "HtmlDiff") p) (e :: rest) [] pos) env = (do callWith pos (← eval (.Name (Str.ofString "HtmlDiff") p) env) [] (backTo pos (starEach (e :: rest) env)) (backToKw pos (keywordEach [] env)))) :
    EvOk h₀ prog w n env (.Call (.Name (Str.ofString "HtmlDiff") p) (e :: rest) [] pos) (fun σ Q => F σ fun ps H₁ => ∃ size wr : Int, ps = [.int size, .int wr] ∧ Q (.obj 113 [("_tabsize", .int size), ("_wrapcolumn", .int wr), ("_linejunk", .none), ("_charjunk", .raw (.ref 29))]) H₁) := by
  refine' ev_call (fv := .ref 113) (W := fun ps H₁ Q => ∃ size wr : Int, ps = [.int size, .int wr] ∧ Q (.obj 113 [("_tabsize", .int size), ("_wrapcolumn", .int wr), ("_linejunk", .none), ("_charjunk", .raw (.ref 29))]) H₁) (nm_glob G ?hn hx hg ?hd) (kpr_K G ?kk) hes (fun loc Z H s ps vs S hv A Q Q' E rm f q => html_op (n := 0) G loc Z H s ps vs S hv A Q Q' E (rm.le hn) f q) h5 h6 h7
  case hn => k_is
  case hd => decide
  case kk => k_is
end Mine
namespace Mine
theorem cells10 (w : World) : ∃ Fb, Fn (Mine.kcap.heap_1 w.params) w 136 ["number", "signs", "wrap"] 5 Fb ∧ ∀ (i : Int) (r : Cells) (p : PV) (wr : Nat) (H : LH) (Q : PV → LH → Prop), lstOf H p = some (r.map cellP) → (∀ x ∈ r, x.1 < 128 ∧ ∀ c ∈ x.2, c < 128) → r.length ≤ 400 → 1 ≤ wr → wr ≤ 9 → Q (.lst (cellsOut i r wr)) H → callW ["number", "signs", "wrap"] Fb [.int i, p, .int wr] H Q := by
  refine' ⟨_, Fn.intro ?ho ?hcd ?hkp ?hco ?hgen ?hk ?hbind ?hkind ?hnn ?hnd ?hb, ?_⟩
  case ho => k_is
  case hcd => k_is
  case hkp => k_is
  case hco => rfl
  case hgen => rfl
  case hk => rfl
  case hbind => exact fun s => bind3 fun a b c => rfl
  case hkind => decide +kernel
  case hnn => decide
  case hnd => decide +kernel
  case hb =>
    intro h₀ prog G L'
    with_reducible refine' xs_cons ?s0 ?t0
    case s0 => repeat' (first | (with_reducible refine' ev_lmul ?_ ?_) | with_reducible exact ev_int _ _ _ | with_reducible exact ev_str _ _ _ | with_reducible exact ev_none _ _ | with_reducible exact ev_bool _ _ _ | (with_reducible refine' ev_name _ _ ?_ ?_) | (with_reducible refine' ev_binop ?_ ?_) | (with_reducible refine' ev_neg ?_) | (with_reducible refine' ev_cmp ?_ ?_ ?_) | (with_reducible refine' ev_ifexp ?_ ?_ ?_) | (with_reducible refine' ev_list ?_) | (with_reducible refine' ev_tuple ?_) | with_reducible exact es_nil | (with_reducible refine' es_cons ?_ ?_ ?_) | (with_reducible refine' ev_cut ?_ ?_ ?_) | (with_reducible refine' ev_idx ?_ ?_ ?_) | with_reducible exact pt_none | (with_reducible refine' pt_some ?_) | (with_reducible refine' bt_cmp ?_ ?_ ?_) | (with_reducible refine' bt_not ?_) | (with_reducible refine' bt_bool ?_) | with_reducible exact at_and_nil | with_reducible exact at_or_nil | (with_reducible refine' at_and_cons ?_ ?_) | (with_reducible refine' at_or_cons ?_ ?_) | with_reducible exact xs_nil | (with_reducible refine' xs_cons ?_ ?_) | (with_reducible refine' st_assign ?_ ?_ ?_) | (with_reducible refine' st_aug ?_ ?_ ?_) | (with_reducible refine' st_if ?_ ?_ ?_) | (with_reducible refine' st_append ?_ ?_ ?_ ?_ ?_ ?_) | (with_reducible refine' st_augidx ?_ ?_ ?_ ?_) | (with_reducible refine' st_ret ?_) | with_reducible exact st_ret0 | with_reducible exact st_cont | with_reducible exact st_pass | (with_reducible refine' st_while ?_ ?_) | (with_reducible refine' st_for ?_ (as_name ?_) ?_ ?_ ?_) | (with_reducible refine' ev_len (by assumption) ?_ ?_ ?_ ?_ ?_ ?_ ?_ ?_) | (with_reducible refine' ev_chr (by assumption) ?_ ?_ ?_ ?_ ?_ ?_ ?_ ?_) | (with_reducible refine' ev_range (by assumption) ?_ ?_ ?_ ?_ ?_ ?_ ?_ ?_) | (with_reducible refine' ev_abs (by assumption) ?_ ?_ ?_ ?_ ?_ ?_ ?_ ?_) | (with_reducible refine' ev_count _ ?_ ?_ ?_ ?_ ?_) | (with_reducible refine' ev_split _ ?_ ?_ ?_ ?_ ?_) | (with_reducible refine' ev_index _ ?_ ?_ ?_ ?_) | (with_reducible refine' ev_attr (C := 113) (by assumption) ?_ ?_ ?_ ?_ ?_ ?_) | (with_reducible refine' st_forT ?_ (as_tuple2 (as_name ?_) (as_name ?_) ?_ ?_) ?_ ?_ ?_) | (rintro _ _ _ ⟨_, _, rfl, _⟩; exact ⟨_, rfl⟩) | with_reducible exact ts_nil | (with_reducible refine' ts_one ?_) | ((with_reducible show nsIn _ _ _ = _); k_is) | ((with_reducible show plainGet _ _ _ = _); k_is) | ((with_reducible show hasDictIn _ _ = _); k_is) | ((with_reducible show findIn _ _ _ = _); k_is) | ((with_reducible show noGet _ _ = _); k_is) | ((with_reducible show Stores _ _); first | exact Or.inl rfl | exact Or.inr ⟨rfl, rfl⟩) | ((with_reducible show (_ == _) = false); decide) | ((with_reducible show behindInMarks _ _ = _); with_unfolding_all rfl) | ((with_reducible show _ ≤ _); decide) | ((with_reducible show _ = _); rfl) | ((with_reducible show ∀ _, _ = _); intro _; rfl) | ((with_reducible show ∀ _ _, _ = _); intro _ _; rfl) | ((with_reducible show ∀ _ _ _, _ = _); intro _ _ _; rfl) | (with_reducible refine' bt_val ?_ ?_))
    case t0 =>
      with_reducible refine' xs_cons (st_ret ?e1) xs_nil
      case e1 =>
        refine' ev_comp (caps := ["number", "signs", "wrap"]) ?hiA ?hclosA ?cpA ?hcellA ?hnamesA ?haA ?htA ?heA ?htgA ?hsA
        case hclosA => rfl
        case cpA => exact ⟨fun p hp => by (simp only [List.mem_cons, List.not_mem_nil, or_false] at hp; rcases hp with rfl | rfl | rfl <;> first | exact List.mem_cons_self | exact List.mem_cons_of_mem _ List.mem_cons_self | exact List.mem_cons_of_mem _ (List.mem_cons_of_mem _ List.mem_cons_self) | exact List.mem_cons_of_mem _ (List.mem_cons_of_mem _ (List.mem_cons_of_mem _ List.mem_cons_self))), by first | decide | (simp; done) | (simp; (first | lia | omega)), rfl, fun C y hy => by (simp only [List.mem_cons, List.not_mem_nil, or_false] at hy; rcases hy with rfl | rfl | rfl <;> exact ⟨by first | exact Or.inl rfl | exact Or.inr rfl, rfl, by intro h; cases h⟩)⟩
        case hcellA => decide
        case hnamesA => decide
        case htgA => intro _ _; rfl
        case hsA => intro _; rfl
        case haA => exact fun C => ac_name rfl
        case hiA => repeat' (first | with_reducible exact ev_int _ _ _ | with_reducible exact ev_str _ _ _ | with_reducible exact ev_none _ _ | with_reducible exact ev_bool _ _ _ | (with_reducible refine' ev_name _ _ ?_ ?_) | (with_reducible refine' ev_binop ?_ ?_) | (with_reducible refine' ev_neg ?_) | (with_reducible refine' ev_cmp ?_ ?_ ?_) | (with_reducible refine' ev_ifexp ?_ ?_ ?_) | (with_reducible refine' ev_list ?_) | (with_reducible refine' ev_tuple ?_) | with_reducible exact es_nil | (with_reducible refine' es_cons ?_ ?_ ?_) | (with_reducible refine' ev_cut ?_ ?_ ?_) | (with_reducible refine' ev_idx ?_ ?_ ?_) | with_reducible exact pt_none | (with_reducible refine' pt_some ?_) | (with_reducible refine' bt_cmp ?_ ?_ ?_) | (with_reducible refine' bt_not ?_) | (with_reducible refine' bt_bool ?_) | with_reducible exact at_and_nil | with_reducible exact at_or_nil | (with_reducible refine' at_and_cons ?_ ?_) | (with_reducible refine' at_or_cons ?_ ?_) | with_reducible exact xs_nil | (with_reducible refine' xs_cons ?_ ?_) | (with_reducible refine' st_assign ?_ ?_ ?_) | (with_reducible refine' st_aug ?_ ?_ ?_) | (with_reducible refine' st_if ?_ ?_ ?_) | (with_reducible refine' st_append ?_ ?_ ?_ ?_ ?_ ?_) | (with_reducible refine' st_augidx ?_ ?_ ?_ ?_) | (with_reducible refine' st_ret ?_) | with_reducible exact st_ret0 | with_reducible exact st_cont | with_reducible exact st_pass | (with_reducible refine' st_while ?_ ?_) | (with_reducible refine' st_for ?_ (as_name ?_) ?_ ?_ ?_) | (with_reducible refine' ev_len (by assumption) ?_ ?_ ?_ ?_ ?_ ?_ ?_ ?_) | (with_reducible refine' ev_chr (by assumption) ?_ ?_ ?_ ?_ ?_ ?_ ?_ ?_) | (with_reducible refine' ev_range (by assumption) ?_ ?_ ?_ ?_ ?_ ?_ ?_ ?_) | (with_reducible refine' ev_abs (by assumption) ?_ ?_ ?_ ?_ ?_ ?_ ?_ ?_) | (with_reducible refine' ev_count _ ?_ ?_ ?_ ?_ ?_) | (with_reducible refine' ev_split _ ?_ ?_ ?_ ?_ ?_) | (with_reducible refine' ev_index _ ?_ ?_ ?_ ?_) | (with_reducible refine' ev_attr (C := 113) (by assumption) ?_ ?_ ?_ ?_ ?_ ?_) | (with_reducible refine' st_forT ?_ (as_tuple2 (as_name ?_) (as_name ?_) ?_ ?_) ?_ ?_ ?_) | (rintro _ _ _ ⟨_, _, rfl, _⟩; exact ⟨_, rfl⟩) | with_reducible exact ts_nil | (with_reducible refine' ts_one ?_) | ((with_reducible show nsIn _ _ _ = _); k_is) | ((with_reducible show plainGet _ _ _ = _); k_is) | ((with_reducible show hasDictIn _ _ = _); k_is) | ((with_reducible show findIn _ _ _ = _); k_is) | ((with_reducible show noGet _ _ = _); k_is) | ((with_reducible show Stores _ _); first | exact Or.inl rfl | exact Or.inr ⟨rfl, rfl⟩) | ((with_reducible show (_ == _) = false); decide) | ((with_reducible show behindInMarks _ _ = _); with_unfolding_all rfl) | ((with_reducible show _ ≤ _); decide) | ((with_reducible show _ = _); rfl) | ((with_reducible show ∀ _, _ = _); intro _; rfl) | ((with_reducible show ∀ _ _, _ = _); intro _ _; rfl) | ((with_reducible show ∀ _ _ _, _ = _); intro _ _ _; rfl) | (with_reducible refine' bt_val ?_ ?_))
        case htA => intro C; repeat' (first | with_reducible exact ev_int _ _ _ | with_reducible exact ev_str _ _ _ | with_reducible exact ev_none _ _ | with_reducible exact ev_bool _ _ _ | (with_reducible refine' ev_name _ _ ?_ ?_) | (with_reducible refine' ev_binop ?_ ?_) | (with_reducible refine' ev_neg ?_) | (with_reducible refine' ev_cmp ?_ ?_ ?_) | (with_reducible refine' ev_ifexp ?_ ?_ ?_) | (with_reducible refine' ev_list ?_) | (with_reducible refine' ev_tuple ?_) | with_reducible exact es_nil | (with_reducible refine' es_cons ?_ ?_ ?_) | (with_reducible refine' ev_cut ?_ ?_ ?_) | (with_reducible refine' ev_idx ?_ ?_ ?_) | with_reducible exact pt_none | (with_reducible refine' pt_some ?_) | (with_reducible refine' bt_cmp ?_ ?_ ?_) | (with_reducible refine' bt_not ?_) | (with_reducible refine' bt_bool ?_) | with_reducible exact at_and_nil | with_reducible exact at_or_nil | (with_reducible refine' at_and_cons ?_ ?_) | (with_reducible refine' at_or_cons ?_ ?_) | with_reducible exact xs_nil | (with_reducible refine' xs_cons ?_ ?_) | (with_reducible refine' st_assign ?_ ?_ ?_) | (with_reducible refine' st_aug ?_ ?_ ?_) | (with_reducible refine' st_if ?_ ?_ ?_) | (with_reducible refine' st_append ?_ ?_ ?_ ?_ ?_ ?_) | (with_reducible refine' st_augidx ?_ ?_ ?_ ?_) | (with_reducible refine' st_ret ?_) | with_reducible exact st_ret0 | with_reducible exact st_cont | with_reducible exact st_pass | (with_reducible refine' st_while ?_ ?_) | (with_reducible refine' st_for ?_ (as_name ?_) ?_ ?_ ?_) | (with_reducible refine' ev_len (by assumption) ?_ ?_ ?_ ?_ ?_ ?_ ?_ ?_) | (with_reducible refine' ev_chr (by assumption) ?_ ?_ ?_ ?_ ?_ ?_ ?_ ?_) | (with_reducible refine' ev_range (by assumption) ?_ ?_ ?_ ?_ ?_ ?_ ?_ ?_) | (with_reducible refine' ev_abs (by assumption) ?_ ?_ ?_ ?_ ?_ ?_ ?_ ?_) | (with_reducible refine' ev_count _ ?_ ?_ ?_ ?_ ?_) | (with_reducible refine' ev_split _ ?_ ?_ ?_ ?_ ?_) | (with_reducible refine' ev_index _ ?_ ?_ ?_ ?_) | (with_reducible refine' ev_attr (C := 113) (by assumption) ?_ ?_ ?_ ?_ ?_ ?_) | (with_reducible refine' st_forT ?_ (as_tuple2 (as_name ?_) (as_name ?_) ?_ ?_) ?_ ?_ ?_) | (rintro _ _ _ ⟨_, _, rfl, _⟩; exact ⟨_, rfl⟩) | with_reducible exact ts_nil | (with_reducible refine' ts_one ?_) | ((with_reducible show nsIn _ _ _ = _); k_is) | ((with_reducible show plainGet _ _ _ = _); k_is) | ((with_reducible show hasDictIn _ _ = _); k_is) | ((with_reducible show findIn _ _ _ = _); k_is) | ((with_reducible show noGet _ _ = _); k_is) | ((with_reducible show Stores _ _); first | exact Or.inl rfl | exact Or.inr ⟨rfl, rfl⟩) | ((with_reducible show (_ == _) = false); decide) | ((with_reducible show behindInMarks _ _ = _); with_unfolding_all rfl) | ((with_reducible show _ ≤ _); decide) | ((with_reducible show _ = _); rfl) | ((with_reducible show ∀ _, _ = _); intro _; rfl) | ((with_reducible show ∀ _ _, _ = _); intro _ _; rfl) | ((with_reducible show ∀ _ _ _, _ = _); intro _ _ _; rfl) | (with_reducible refine' bt_val ?_ ?_))
        case heA => intro C; repeat' (first | with_reducible exact ev_int _ _ _ | with_reducible exact ev_str _ _ _ | with_reducible exact ev_none _ _ | with_reducible exact ev_bool _ _ _ | (with_reducible refine' ev_name _ _ ?_ ?_) | (with_reducible refine' ev_binop ?_ ?_) | (with_reducible refine' ev_neg ?_) | (with_reducible refine' ev_cmp ?_ ?_ ?_) | (with_reducible refine' ev_ifexp ?_ ?_ ?_) | (with_reducible refine' ev_list ?_) | (with_reducible refine' ev_tuple ?_) | with_reducible exact es_nil | (with_reducible refine' es_cons ?_ ?_ ?_) | (with_reducible refine' ev_cut ?_ ?_ ?_) | (with_reducible refine' ev_idx ?_ ?_ ?_) | with_reducible exact pt_none | (with_reducible refine' pt_some ?_) | (with_reducible refine' bt_cmp ?_ ?_ ?_) | (with_reducible refine' bt_not ?_) | (with_reducible refine' bt_bool ?_) | with_reducible exact at_and_nil | with_reducible exact at_or_nil | (with_reducible refine' at_and_cons ?_ ?_) | (with_reducible refine' at_or_cons ?_ ?_) | with_reducible exact xs_nil | (with_reducible refine' xs_cons ?_ ?_) | (with_reducible refine' st_assign ?_ ?_ ?_) | (with_reducible refine' st_aug ?_ ?_ ?_) | (with_reducible refine' st_if ?_ ?_ ?_) | (with_reducible refine' st_append ?_ ?_ ?_ ?_ ?_ ?_) | (with_reducible refine' st_augidx ?_ ?_ ?_ ?_) | (with_reducible refine' st_ret ?_) | with_reducible exact st_ret0 | with_reducible exact st_cont | with_reducible exact st_pass | (with_reducible refine' st_while ?_ ?_) | (with_reducible refine' st_for ?_ (as_name ?_) ?_ ?_ ?_) | (with_reducible refine' ev_len (by assumption) ?_ ?_ ?_ ?_ ?_ ?_ ?_ ?_) | (with_reducible refine' ev_chr (by assumption) ?_ ?_ ?_ ?_ ?_ ?_ ?_ ?_) | (with_reducible refine' ev_range (by assumption) ?_ ?_ ?_ ?_ ?_ ?_ ?_ ?_) | (with_reducible refine' ev_abs (by assumption) ?_ ?_ ?_ ?_ ?_ ?_ ?_ ?_) | (with_reducible refine' ev_count _ ?_ ?_ ?_ ?_ ?_) | (with_reducible refine' ev_split _ ?_ ?_ ?_ ?_ ?_) | (with_reducible refine' ev_index _ ?_ ?_ ?_ ?_) | (with_reducible refine' ev_attr (C := 113) (by assumption) ?_ ?_ ?_ ?_ ?_ ?_) | (with_reducible refine' st_forT ?_ (as_tuple2 (as_name ?_) (as_name ?_) ?_ ?_) ?_ ?_ ?_) | (rintro _ _ _ ⟨_, _, rfl, _⟩; exact ⟨_, rfl⟩) | with_reducible exact ts_nil | (with_reducible refine' ts_one ?_) | ((with_reducible show nsIn _ _ _ = _); k_is) | ((with_reducible show plainGet _ _ _ = _); k_is) | ((with_reducible show hasDictIn _ _ = _); k_is) | ((with_reducible show findIn _ _ _ = _); k_is) | ((with_reducible show noGet _ _ = _); k_is) | ((with_reducible show Stores _ _); first | exact Or.inl rfl | exact Or.inr ⟨rfl, rfl⟩) | ((with_reducible show (_ == _) = false); decide) | ((with_reducible show behindInMarks _ _ = _); with_unfolding_all rfl) | ((with_reducible show _ ≤ _); decide) | ((with_reducible show _ = _); rfl) | ((with_reducible show ∀ _, _ = _); intro _; rfl) | ((with_reducible show ∀ _ _, _ = _); intro _ _; rfl) | ((with_reducible show ∀ _ _ _, _ = _); intro _ _ _; rfl) | (with_reducible refine' bt_val ?_ ?_))
  intro i r p wr H Q hp hg hl h1 h9 hq
  unfold callW
  have he : (r.map cellP).isEmpty = r.isEmpty := by cases r <;> rfl
  refine seq_or (fun σ => r ≠ [] ∧ σ = ⟨argLoc ["number", "signs", "wrap"] [.int i, p, .int wr], H.ro⟩) (fun R hR hr => ?_) ?_
  · refine get_W (show _ = some p from rfl) ⟨by decide, listW_lst (eq_nil (lstOf_ro hp) (cells_gd r 59 hg) ?_)⟩
    rw [he]
    cases r with
    | nil =>
      refine PySem.W.ite_pos rfl ⟨by decide, by decide, listW_lst ⟨_, 10, rfl, rfl, by decide, by decide, listW_lst ⟨by decide, by decide, listW_lst (hr _ _ (.inl ?_))⟩⟩⟩
      rw [ofSe, ofSnl]
      exact hq
    | cons x r => exact PySem.W.ite_neg (by simp) (hR _ ⟨by simp, rfl⟩)
  · rintro σ ⟨hne, rfl⟩
    have hpos : 0 < r.length := by cases r with | nil => exact absurd rfl hne | cons _ _ => simp
    have hcnt : (r.length - 1) / wr + 1 ≤ 401 := by have := Nat.div_le_self (r.length - 1) wr; (first | lia | omega)
    refine get_W (show _ = some p from rfl) (len_X (lstOf_ro hp) (by rw [List.length_map]; (first | lia | omega)) (get_W (show _ = some (PV.int wr) from rfl) ⟨by (first | lia | omega), by (first | lia | omega), ?_⟩))
    rw [List.length_map]
    refine ⟨((List.range ((r.length - 1) / wr + 1)).map fun j => ((j * wr : Nat) : Int)).map .int, ?_, by rw [List.length_map, List.length_map, List.length_range, sizeLine_eq]; (first | lia | omega), ?_⟩
    · show (if Builtin.Range.small 0 (r.length : Int) (wr : Int) = true then some ((rngInts 0 (r.length : Int) (wr : Int)).map PV.int) else none) = _
      rw [if_pos (small_ok (by (first | lia | omega)) (by (first | lia | omega)) (by (first | lia | omega))), range0 wr r.length h1 hpos]
    · have hm : (((List.range ((r.length - 1) / wr + 1)).map fun j => ((j * wr : Nat) : Int)).map PV.int).map (fun q => match q with | .int k => cellRow i r wr (k.toNat / wr) | _ => .none) = cellsOut i r wr := by
        unfold cellsOut
        rw [if_neg hne, List.map_map, List.map_map]
        refine List.map_congr_left fun j _ => ?_
        show cellRow i r wr ((((j * wr : Nat) : Int)).toNat / wr) = _
        rw [Int.toNat_natCast, Nat.mul_div_cancel _ h1]
      refine compW_map (fun q => match q with | .int k => cellRow i r wr (k.toNat / wr) | _ => .none) _ (fun q hq' R1 hr1 => ?_) (listW_lst (.inl (by rw [hm]; exact hq)))
      obtain ⟨z, hz, rfl⟩ := List.mem_map.mp hq'
      obtain ⟨j, hj, rfl⟩ := List.mem_map.mp hz
      have hjl := List.mem_range.mp hj
      have hjw : j * wr ≤ r.length := by
        have h2 : j * wr ≤ ((r.length - 1) / wr) * wr := Nat.mul_le_mul_right _ (by (first | lia | omega))
        have := Nat.div_mul_le_self (r.length - 1) wr; (first | lia | omega)
      have hr2 : R1 (cellRow i r wr j) H.ro := by
        have h : R1 (cellRow i r wr ((((j * wr : Nat) : Int)).toNat / wr)) H.ro := hr1
        rw [Int.toNat_natCast, Nat.mul_div_cancel _ h1] at h; exact h
      clear hr1 hm hq' hz hj
      have hcut : cut (r.map cellP) (some ((j * wr : Nat) : Int)) (some (((j * wr : Nat) : Int) + (wr : Int))) = ((r.drop (j * wr)).take wr).map cellP := by
        rw [cut_win _ _ _ (by rw [List.length_map]; exact hjw), ← List.map_drop, ← List.map_take]
      have rest : ∀ v : PV, (v = if j = 0 then .int i else .str (mkS [62])) → R1 (.tup [v, .lst (((r.drop (j * wr)).take wr).map cellP)]) H.ro := fun v e => by rw [e]; exact hr2
      refine get_W rfl (cmp_eqI ?_)
      by_cases h0 : j = 0
      · refine PySem.W.ite_pos (by rw [h0]; simp) (get_W rfl ?_)
        refine get_W (show _ = some p from rfl) (get_W rfl ⟨_, rfl, get_W rfl (get_W (show _ = some (PV.int wr) from rfl) (bin_addI ⟨_, rfl, cut_XL (lstOf_ro hp) (by rw [List.length_map, sizeLine_eq]; (first | lia | omega)) ?_⟩))⟩)
        rw [hcut]
        exact listW_lst ⟨by rw [sizeLine_eq]; simp, rest _ (by rw [if_pos h0])⟩
      · refine PySem.W.ite_neg (by have : j * wr ≠ 0 := Nat.mul_ne_zero h0 (by (first | lia | omega)); simp; (first | lia | omega)) ?_
        refine get_W (show _ = some p from rfl) (get_W rfl ⟨_, rfl, get_W rfl (get_W (show _ = some (PV.int wr) from rfl) (bin_addI ⟨_, rfl, cut_XL (lstOf_ro hp) (by rw [List.length_map, sizeLine_eq]; (first | lia | omega)) ?_⟩))⟩)
        rw [hcut, ofSg]
        exact listW_lst ⟨by rw [sizeLine_eq]; simp, rest _ (by rw [if_neg h0])⟩
end Mine
namespace Mine
/-- what the loop of _split_line does -/
inductive WhS (σ : St) (Q : Fl → St → Prop) : Prop
  | mk (T : List Tk) (wr : Nat) (h0 : wr < vis T) (h1 : PW [] T) (h2 : (flat T).length ≤ 6002) (h3 : σ.loc "i" = some (.int 0)) (h4 : σ.loc "n" = some (.int 0)) (h5 : σ.loc "mark" = some (.str (mkS []))) (h6 : σ.loc "max" = some (.int (wr : Nat))) (h7 : σ.loc "size" = some (.int ((flat T).length : Nat))) (h8 : σ.loc "text" = some (.str (mkS (flat T)))) (h9 : ∀ σ', SameBut ["i", "n", "mark"] σ σ' → σ'.loc "i" = some (.int ((flat (cutA wr T)).length : Nat)) → σ'.loc "mark" = some (.str (mkS (mkF [] (cutA wr T)))) → Q .next σ') : WhS σ Q
/-- a mark that is open at the cut -/
inductive IfS (σ : St) (Q : Fl → St → Prop) : Prop
  | mk (m X Y : List Nat) (h0 : m.length ≤ 1) (h1 : X.length ≤ 7000) (h2 : Y.length ≤ 7000) (h3 : σ.loc "mark" = some (.str (mkS m))) (h4 : σ.loc "line1" = some (.str (mkS X))) (h5 : σ.loc "line2" = some (.str (mkS Y))) (h6 : ∀ σ', SameBut ["line1", "line2"] σ σ' → σ'.loc "line1" = some (.str (mkS (X ++ post m))) → σ'.loc "line2" = some (.str (mkS (pre m ++ Y))) → Q .next σ') : IfS σ Q
/-- the lines behind the loop -/
inductive Rs2 (C : Addr) (W' : List PV → LH → (PV → LH → Prop) → Prop) (σ : St) (Q : Fl → St → Prop) : Prop
  | mk (fs : List (String × PV)) (a : Addr) (xs : List PV) (line : PV) (m X Y : List Nat) (h0 : m.length ≤ 1) (h1 : (X ++ Y).length ≤ 6002) (h2 : xs.length ≤ 10000) (h3 : fs.lookup "_split_line" = none) (h4 : σ.H a = some ⟨true, xs⟩) (h5 : σ.loc "text" = some (.str (mkS (X ++ Y)))) (h6 : σ.loc "i" = some (.int (X.length : Nat))) (h7 : σ.loc "mark" = some (.str (mkS m))) (h8 : σ.loc "self" = some (.obj C fs)) (h9 : σ.loc "data_list" = some (.ref a)) (h10 : σ.loc "line_num" = some line) (h11 : W' [.obj C fs, .ref a, .str (mkS [62]), .str (mkS (pre m ++ Y))] (σ.H.set a ⟨true, xs ++ [.tup [line, .str (mkS (X ++ post m))]]⟩) fun r H₃ => r = .none ∧ ∀ loc', Q .next ⟨loc', H₃⟩) : Rs2 C W' σ Q
/-- the lines behind the early ends -/
inductive Rs1 (C : Addr) (W' : List PV → LH → (PV → LH → Prop) → Prop) (σ : St) (Q : Fl → St → Prop) : Prop
  | mk (fs : List (String × PV)) (a : Addr) (xs : List PV) (line : PV) (T : List Tk) (wr : Nat) (h0 : wr < vis T) (h1 : PW [] T) (h2 : (flat T).length ≤ 6002) (h3 : xs.length ≤ 10000) (h4 : fs.lookup "_split_line" = none) (h5 : σ.H a = some ⟨true, xs⟩) (h6 : σ.loc "text" = some (.str (mkS (flat T)))) (h7 : σ.loc "size" = some (.int ((flat T).length : Nat))) (h8 : σ.loc "max" = some (.int (wr : Nat))) (h9 : σ.loc "self" = some (.obj C fs)) (h10 : σ.loc "data_list" = some (.ref a)) (h11 : σ.loc "line_num" = some line) (h12 : W' [.obj C fs, .ref a, .str (mkS [62]), .str (mkS (pre (mkF [] (cutA wr T)) ++ flat (cutB wr T)))] (σ.H.set a ⟨true, xs ++ [.tup [line, .str (mkS (flat (cutA wr T) ++ post (mkF [] (cutA wr T))))]]⟩) fun r H₃ => r = .none ∧ ∀ loc', Q .next ⟨loc', H₃⟩) : Rs1 C W' σ Q
/-- no line number: the text as it is -/
inductive S1S (σ : St) (Q : Fl → St → Prop) : Prop
  | mk (a : Addr) (xs : List PV) (line text : PV) (t : Bool) (h0 : xs.length ≤ 10000) (h1 : (∀ H R, R t → truthW line H R)) (h2 : σ.H a = some ⟨true, xs⟩) (h3 : σ.loc "data_list" = some (.ref a)) (h4 : σ.loc "line_num" = some line) (h5 : σ.loc "text" = some text) (h6 : (t = false → Q (.ret .none) ⟨σ.loc, σ.H.set a ⟨true, xs ++ [.tup [line, text]]⟩⟩)) (h7 : (t = true → Q .next σ)) : S1S σ Q
/-- a text that needs no cut -/
inductive S4S (σ : St) (Q : Fl → St → Prop) : Prop
  | mk (a : Addr) (xs : List PV) (line : PV) (T : List Tk) (wr : Nat) (h0 : xs.length ≤ 10000) (h1 : PW [] T) (h2 : mkF [] T = []) (h3 : (flat T).length ≤ 6002) (h4 : σ.H a = some ⟨true, xs⟩) (h5 : σ.loc "data_list" = some (.ref a)) (h6 : σ.loc "line_num" = some line) (h7 : σ.loc "text" = some (.str (mkS (flat T)))) (h8 : σ.loc "size" = some (.int ((flat T).length : Nat))) (h9 : σ.loc "max" = some (.int (wr : Nat))) (h10 : (vis T ≤ wr → Q (.ret .none) ⟨σ.loc, σ.H.set a ⟨true, xs ++ [.tup [line, .str (mkS (flat T))]]⟩⟩)) (h11 : (wr < vis T → Q .next σ)) : S4S σ Q
theorem split_gen (w : World) (n v : Nat) (W' : List PV → LH → (PV → LH → Prop) → Prop)
    (hop' : ∀ (h₀ : Heap) (prog : Program) (env : Env), Gr (Mine.kcap.heap_1 w.params) h₀ → ∀ loc Z H s ps vs, Sat h₀ Z env loc H s.heap → VRs Z ps vs → MOp h₀ prog w n env loc Z H s (call (.ref 67) vs) (W' ps H))
    (hmono : ∀ ps H (Q Q' : PV → LH → Prop), (∀ r H', Q r H' → Q' r H') → W' ps H Q → W' ps H Q') (hrec : v = 0 ∨ ∃ u, v = u + 1 ∧ W' = SpW 113 u) (h₀ : Heap) (prog : Program) (env : Env) (G : Gr (Mine.kcap.heap_1 w.params) h₀) :
    ∀ loc Z H s ps vs, Sat h₀ Z env loc H s.heap → VRs Z ps vs → MOp h₀ prog w (n + 1) env loc Z H s (call (.ref 67) vs) (SpW 113 v ps H) := by
  intro loc Z H s ps vs S hv
  refine' MOp.mono (mfn_ok (names := ["self", "data_list", "line_num", "text"]) G ?ho ?hcd ?hco ?hgen ?hk ?hbind ?hkind ?hnn ?hnd ?hb loc Z H s ps vs S hv) ?hw
  case ho => k_is
  case hcd => k_is
  case hco => rfl
  case hgen => rfl
  case hk => rfl
  case hbind => exact fun s => bind4 fun a b c d => rfl
  case hkind => decide +kernel
  case hnn => decide
  case hnd => decide +kernel
  case hb =>
    intro L'
    with_reducible refine' xs_cons ?_ ?_
    · refine' ExOk.mono (F' := S1S) ?s1 ?s1m
      case s1 => repeat' (first | with_reducible exact ev_int _ _ _ | with_reducible exact ev_str _ _ _ | with_reducible exact ev_none _ _ | with_reducible exact ev_bool _ _ _ | (with_reducible refine' ev_name _ _ ?_ ?_) | (with_reducible refine' ev_binop ?_ ?_) | (with_reducible refine' ev_neg ?_) | (with_reducible refine' ev_cmp ?_ ?_ ?_) | (with_reducible refine' ev_ifexp ?_ ?_ ?_) | (with_reducible refine' ev_list ?_) | (with_reducible refine' ev_tuple ?_) | with_reducible exact es_nil | (with_reducible refine' es_cons ?_ ?_ ?_) | (with_reducible refine' ev_cut ?_ ?_ ?_) | (with_reducible refine' ev_idx ?_ ?_ ?_) | with_reducible exact pt_none | (with_reducible refine' pt_some ?_) | (with_reducible refine' bt_cmp ?_ ?_ ?_) | (with_reducible refine' bt_not ?_) | (with_reducible refine' bt_bool ?_) | with_reducible exact at_and_nil | with_reducible exact at_or_nil | (with_reducible refine' at_and_cons ?_ ?_) | (with_reducible refine' at_or_cons ?_ ?_) | with_reducible exact xs_nil | (with_reducible refine' xs_cons ?_ ?_) | (with_reducible refine' st_assign ?_ ?_ ?_) | (with_reducible refine' st_aug ?_ ?_ ?_) | (with_reducible refine' st_if ?_ ?_ ?_) | (with_reducible refine' st_append ?_ ?_ ?_ ?_ ?_ ?_) | (with_reducible refine' st_augidx ?_ ?_ ?_ ?_) | (with_reducible refine' st_ret ?_) | with_reducible exact st_ret0 | with_reducible exact st_cont | with_reducible exact st_pass | (with_reducible refine' st_while ?_ ?_) | (with_reducible refine' st_for ?_ (as_name ?_) ?_ ?_ ?_) | (with_reducible refine' ev_len (by assumption) ?_ ?_ ?_ ?_ ?_ ?_ ?_ ?_) | (with_reducible refine' ev_chr (by assumption) ?_ ?_ ?_ ?_ ?_ ?_ ?_ ?_) | (with_reducible refine' ev_range (by assumption) ?_ ?_ ?_ ?_ ?_ ?_ ?_ ?_) | (with_reducible refine' ev_abs (by assumption) ?_ ?_ ?_ ?_ ?_ ?_ ?_ ?_) | (with_reducible refine' ev_count _ ?_ ?_ ?_ ?_ ?_) | (with_reducible refine' ev_split _ ?_ ?_ ?_ ?_ ?_) | (with_reducible refine' ev_index _ ?_ ?_ ?_ ?_) | (with_reducible refine' ev_attr (C := 113) (by assumption) ?_ ?_ ?_ ?_ ?_ ?_) | with_reducible exact ts_nil | (with_reducible refine' ts_one ?_) | ((with_reducible show nsIn _ _ _ = _); k_is) | ((with_reducible show plainGet _ _ _ = _); k_is) | ((with_reducible show hasDictIn _ _ = _); k_is) | ((with_reducible show findIn _ _ _ = _); k_is) | ((with_reducible show noGet _ _ = _); k_is) | ((with_reducible show Stores _ _); first | exact Or.inl rfl | exact Or.inr ⟨rfl, rfl⟩) | ((with_reducible show (_ == _) = false); decide) | ((with_reducible show behindInMarks _ _ = _); with_unfolding_all rfl) | ((with_reducible show _ ≤ _); decide) | ((with_reducible show _ = _); rfl) | ((with_reducible show ∀ _, _ = _); intro _; rfl) | ((with_reducible show ∀ _ _, _ = _); intro _ _; rfl) | ((with_reducible show ∀ _ _ _, _ = _); intro _ _ _; rfl) | (with_reducible refine' bt_val ?_ ?_))
      case s1m =>
        intro σ Q hh
        refine hide fun Gh kh => ?_
        obtain ⟨a, xs, line, text, t, hxs, htr, hH, ld, ll, lt, h0, h1⟩ := hh
        refine kh ?_
        clear kh Gh
        refine get_W ll (htr _ _ ?_)
        cases t with
        | false => exact PySem.W.ite_pos (by decide) (seq_to _ (fun R hR => get_W ld ⟨a, _, rfl, hH, get_W ll (get_W lt ⟨by rw [sizeLine_eq]; simp, xs, hH, by rw [sizeLine_eq]; (first | lia | omega), hR⟩)⟩) (seq_ret _ (fun R hR => hR) (h0 rfl)))
        | true => exact PySem.W.ite_neg (by decide) (h1 rfl)
    with_reducible refine' xs_cons ?_ ?_
    · repeat' (first | with_reducible exact ev_int _ _ _ | with_reducible exact ev_str _ _ _ | with_reducible exact ev_none _ _ | with_reducible exact ev_bool _ _ _ | (with_reducible refine' ev_name _ _ ?_ ?_) | (with_reducible refine' ev_binop ?_ ?_) | (with_reducible refine' ev_neg ?_) | (with_reducible refine' ev_cmp ?_ ?_ ?_) | (with_reducible refine' ev_ifexp ?_ ?_ ?_) | (with_reducible refine' ev_list ?_) | (with_reducible refine' ev_tuple ?_) | with_reducible exact es_nil | (with_reducible refine' es_cons ?_ ?_ ?_) | (with_reducible refine' ev_cut ?_ ?_ ?_) | (with_reducible refine' ev_idx ?_ ?_ ?_) | with_reducible exact pt_none | (with_reducible refine' pt_some ?_) | (with_reducible refine' bt_cmp ?_ ?_ ?_) | (with_reducible refine' bt_not ?_) | (with_reducible refine' bt_bool ?_) | with_reducible exact at_and_nil | with_reducible exact at_or_nil | (with_reducible refine' at_and_cons ?_ ?_) | (with_reducible refine' at_or_cons ?_ ?_) | with_reducible exact xs_nil | (with_reducible refine' xs_cons ?_ ?_) | (with_reducible refine' st_assign ?_ ?_ ?_) | (with_reducible refine' st_aug ?_ ?_ ?_) | (with_reducible refine' st_if ?_ ?_ ?_) | (with_reducible refine' st_append ?_ ?_ ?_ ?_ ?_ ?_) | (with_reducible refine' st_augidx ?_ ?_ ?_ ?_) | (with_reducible refine' st_ret ?_) | with_reducible exact st_ret0 | with_reducible exact st_cont | with_reducible exact st_pass | (with_reducible refine' st_while ?_ ?_) | (with_reducible refine' st_for ?_ (as_name ?_) ?_ ?_ ?_) | (with_reducible refine' ev_len (by assumption) ?_ ?_ ?_ ?_ ?_ ?_ ?_ ?_) | (with_reducible refine' ev_chr (by assumption) ?_ ?_ ?_ ?_ ?_ ?_ ?_ ?_) | (with_reducible refine' ev_range (by assumption) ?_ ?_ ?_ ?_ ?_ ?_ ?_ ?_) | (with_reducible refine' ev_abs (by assumption) ?_ ?_ ?_ ?_ ?_ ?_ ?_ ?_) | (with_reducible refine' ev_count _ ?_ ?_ ?_ ?_ ?_) | (with_reducible refine' ev_split _ ?_ ?_ ?_ ?_ ?_) | (with_reducible refine' ev_index _ ?_ ?_ ?_ ?_) | (with_reducible refine' ev_attr (C := 113) (by assumption) ?_ ?_ ?_ ?_ ?_ ?_) | with_reducible exact ts_nil | (with_reducible refine' ts_one ?_) | ((with_reducible show nsIn _ _ _ = _); k_is) | ((with_reducible show plainGet _ _ _ = _); k_is) | ((with_reducible show hasDictIn _ _ = _); k_is) | ((with_reducible show findIn _ _ _ = _); k_is) | ((with_reducible show noGet _ _ = _); k_is) | ((with_reducible show Stores _ _); first | exact Or.inl rfl | exact Or.inr ⟨rfl, rfl⟩) | ((with_reducible show (_ == _) = false); decide) | ((with_reducible show behindInMarks _ _ = _); with_unfolding_all rfl) | ((with_reducible show _ ≤ _); decide) | ((with_reducible show _ = _); rfl) | ((with_reducible show ∀ _, _ = _); intro _; rfl) | ((with_reducible show ∀ _ _, _ = _); intro _ _; rfl) | ((with_reducible show ∀ _ _ _, _ = _); intro _ _ _; rfl) | (with_reducible refine' bt_val ?_ ?_))
    with_reducible refine' xs_cons ?_ ?_
    · repeat' (first | with_reducible exact ev_int _ _ _ | with_reducible exact ev_str _ _ _ | with_reducible exact ev_none _ _ | with_reducible exact ev_bool _ _ _ | (with_reducible refine' ev_name _ _ ?_ ?_) | (with_reducible refine' ev_binop ?_ ?_) | (with_reducible refine' ev_neg ?_) | (with_reducible refine' ev_cmp ?_ ?_ ?_) | (with_reducible refine' ev_ifexp ?_ ?_ ?_) | (with_reducible refine' ev_list ?_) | (with_reducible refine' ev_tuple ?_) | with_reducible exact es_nil | (with_reducible refine' es_cons ?_ ?_ ?_) | (with_reducible refine' ev_cut ?_ ?_ ?_) | (with_reducible refine' ev_idx ?_ ?_ ?_) | with_reducible exact pt_none | (with_reducible refine' pt_some ?_) | (with_reducible refine' bt_cmp ?_ ?_ ?_) | (with_reducible refine' bt_not ?_) | (with_reducible refine' bt_bool ?_) | with_reducible exact at_and_nil | with_reducible exact at_or_nil | (with_reducible refine' at_and_cons ?_ ?_) | (with_reducible refine' at_or_cons ?_ ?_) | with_reducible exact xs_nil | (with_reducible refine' xs_cons ?_ ?_) | (with_reducible refine' st_assign ?_ ?_ ?_) | (with_reducible refine' st_aug ?_ ?_ ?_) | (with_reducible refine' st_if ?_ ?_ ?_) | (with_reducible refine' st_append ?_ ?_ ?_ ?_ ?_ ?_) | (with_reducible refine' st_augidx ?_ ?_ ?_ ?_) | (with_reducible refine' st_ret ?_) | with_reducible exact st_ret0 | with_reducible exact st_cont | with_reducible exact st_pass | (with_reducible refine' st_while ?_ ?_) | (with_reducible refine' st_for ?_ (as_name ?_) ?_ ?_ ?_) | (with_reducible refine' ev_len (by assumption) ?_ ?_ ?_ ?_ ?_ ?_ ?_ ?_) | (with_reducible refine' ev_chr (by assumption) ?_ ?_ ?_ ?_ ?_ ?_ ?_ ?_) | (with_reducible refine' ev_range (by assumption) ?_ ?_ ?_ ?_ ?_ ?_ ?_ ?_) | (with_reducible refine' ev_abs (by assumption) ?_ ?_ ?_ ?_ ?_ ?_ ?_ ?_) | (with_reducible refine' ev_count _ ?_ ?_ ?_ ?_ ?_) | (with_reducible refine' ev_split _ ?_ ?_ ?_ ?_ ?_) | (with_reducible refine' ev_index _ ?_ ?_ ?_ ?_) | (with_reducible refine' ev_attr (C := 113) (by assumption) ?_ ?_ ?_ ?_ ?_ ?_) | with_reducible exact ts_nil | (with_reducible refine' ts_one ?_) | ((with_reducible show nsIn _ _ _ = _); k_is) | ((with_reducible show plainGet _ _ _ = _); k_is) | ((with_reducible show hasDictIn _ _ = _); k_is) | ((with_reducible show findIn _ _ _ = _); k_is) | ((with_reducible show noGet _ _ = _); k_is) | ((with_reducible show Stores _ _); first | exact Or.inl rfl | exact Or.inr ⟨rfl, rfl⟩) | ((with_reducible show (_ == _) = false); decide) | ((with_reducible show behindInMarks _ _ = _); with_unfolding_all rfl) | ((with_reducible show _ ≤ _); decide) | ((with_reducible show _ = _); rfl) | ((with_reducible show ∀ _, _ = _); intro _; rfl) | ((with_reducible show ∀ _ _, _ = _); intro _ _; rfl) | ((with_reducible show ∀ _ _ _, _ = _); intro _ _ _; rfl) | (with_reducible refine' bt_val ?_ ?_))
    with_reducible refine' xs_cons ?_ ?_
    · refine' ExOk.mono (F' := S4S) ?s4 ?s4m
      case s4 => repeat' (first | with_reducible exact ev_int _ _ _ | with_reducible exact ev_str _ _ _ | with_reducible exact ev_none _ _ | with_reducible exact ev_bool _ _ _ | (with_reducible refine' ev_name _ _ ?_ ?_) | (with_reducible refine' ev_binop ?_ ?_) | (with_reducible refine' ev_neg ?_) | (with_reducible refine' ev_cmp ?_ ?_ ?_) | (with_reducible refine' ev_ifexp ?_ ?_ ?_) | (with_reducible refine' ev_list ?_) | (with_reducible refine' ev_tuple ?_) | with_reducible exact es_nil | (with_reducible refine' es_cons ?_ ?_ ?_) | (with_reducible refine' ev_cut ?_ ?_ ?_) | (with_reducible refine' ev_idx ?_ ?_ ?_) | with_reducible exact pt_none | (with_reducible refine' pt_some ?_) | (with_reducible refine' bt_cmp ?_ ?_ ?_) | (with_reducible refine' bt_not ?_) | (with_reducible refine' bt_bool ?_) | with_reducible exact at_and_nil | with_reducible exact at_or_nil | (with_reducible refine' at_and_cons ?_ ?_) | (with_reducible refine' at_or_cons ?_ ?_) | with_reducible exact xs_nil | (with_reducible refine' xs_cons ?_ ?_) | (with_reducible refine' st_assign ?_ ?_ ?_) | (with_reducible refine' st_aug ?_ ?_ ?_) | (with_reducible refine' st_if ?_ ?_ ?_) | (with_reducible refine' st_append ?_ ?_ ?_ ?_ ?_ ?_) | (with_reducible refine' st_augidx ?_ ?_ ?_ ?_) | (with_reducible refine' st_ret ?_) | with_reducible exact st_ret0 | with_reducible exact st_cont | with_reducible exact st_pass | (with_reducible refine' st_while ?_ ?_) | (with_reducible refine' st_for ?_ (as_name ?_) ?_ ?_ ?_) | (with_reducible refine' ev_len (by assumption) ?_ ?_ ?_ ?_ ?_ ?_ ?_ ?_) | (with_reducible refine' ev_chr (by assumption) ?_ ?_ ?_ ?_ ?_ ?_ ?_ ?_) | (with_reducible refine' ev_range (by assumption) ?_ ?_ ?_ ?_ ?_ ?_ ?_ ?_) | (with_reducible refine' ev_abs (by assumption) ?_ ?_ ?_ ?_ ?_ ?_ ?_ ?_) | (with_reducible refine' ev_count _ ?_ ?_ ?_ ?_ ?_) | (with_reducible refine' ev_split _ ?_ ?_ ?_ ?_ ?_) | (with_reducible refine' ev_index _ ?_ ?_ ?_ ?_) | (with_reducible refine' ev_attr (C := 113) (by assumption) ?_ ?_ ?_ ?_ ?_ ?_) | with_reducible exact ts_nil | (with_reducible refine' ts_one ?_) | ((with_reducible show nsIn _ _ _ = _); k_is) | ((with_reducible show plainGet _ _ _ = _); k_is) | ((with_reducible show hasDictIn _ _ = _); k_is) | ((with_reducible show findIn _ _ _ = _); k_is) | ((with_reducible show noGet _ _ = _); k_is) | ((with_reducible show Stores _ _); first | exact Or.inl rfl | exact Or.inr ⟨rfl, rfl⟩) | ((with_reducible show (_ == _) = false); decide) | ((with_reducible show behindInMarks _ _ = _); with_unfolding_all rfl) | ((with_reducible show _ ≤ _); decide) | ((with_reducible show _ = _); rfl) | ((with_reducible show ∀ _, _ = _); intro _; rfl) | ((with_reducible show ∀ _ _, _ = _); intro _ _; rfl) | ((with_reducible show ∀ _ _ _, _ = _); intro _ _ _; rfl) | (with_reducible refine' bt_val ?_ ?_))
      case s4m =>
        intro σ Q hh
        refine hide fun Gh kh => ?_
        obtain ⟨a, xs, line, T, wr, hxs, hPT, hcl, hL, hH, ld, ll, lt, ls, lx, h0, h1⟩ := hh
        have hfl := flat_len [] _ hPT
        have hba := flat_bal [] _ hPT
        rw [hcl, one_nil] at hba
        refine kh ?_
        clear kh Gh
        refine get_W ls (get_W lx (cmp_leI ?_))
        by_cases hs : (((flat T).length : Nat) : Int) ≤ (wr : Int)
        · refine PySem.W.ite_pos (decide_eq_true hs) ?_
          exact PySem.W.ite_pos rfl (seq_to _ (fun R hR => get_W ld ⟨a, _, rfl, hH, get_W ll (get_W lt ⟨by rw [sizeLine_eq]; simp, xs, hH, by rw [sizeLine_eq]; (first | lia | omega), hR⟩)⟩) (seq_ret _ (fun R hR => hR) (h0 (by (first | lia | omega)))))
        · refine PySem.W.ite_neg (by simpa using hs) ?_
          rw [ofS0]
          refine get_W ls (get_W lt ⟨_, rfl, count_W (bin_mulI (IntMulOk.of_right (by decide)) (bin_subI (get_W lx (cmp_leI ?_))))⟩)
          by_cases hv : vis T ≤ wr
          · refine PySem.W.ite_pos (decide_eq_true (by (first | lia | omega))) ?_
            exact PySem.W.ite_pos rfl (seq_to _ (fun R hR => get_W ld ⟨a, _, rfl, hH, get_W ll (get_W lt ⟨by rw [sizeLine_eq]; simp, xs, hH, by rw [sizeLine_eq]; (first | lia | omega), hR⟩)⟩) (seq_ret _ (fun R hR => hR) (h0 hv)))
          · refine PySem.W.ite_neg (by rw [decide_eq_true_eq]; (first | lia | omega)) ?_
            exact PySem.W.ite_neg (by decide) (h1 (by (first | lia | omega)))
    refine' XsOk.mono (F' := Rs1 113 W') ?r1 ?r1m
    case r1 =>
      with_reducible refine' xs_cons ?sq1 ?tq1
      case sq1 =>
        repeat' (first | with_reducible exact ev_int _ _ _ | with_reducible exact ev_str _ _ _ | with_reducible exact ev_none _ _ | with_reducible exact ev_bool _ _ _ | (with_reducible refine' ev_name _ _ ?_ ?_) | (with_reducible refine' ev_binop ?_ ?_) | (with_reducible refine' ev_neg ?_) | (with_reducible refine' ev_cmp ?_ ?_ ?_) | (with_reducible refine' ev_ifexp ?_ ?_ ?_) | (with_reducible refine' ev_list ?_) | (with_reducible refine' ev_tuple ?_) | with_reducible exact es_nil | (with_reducible refine' es_cons ?_ ?_ ?_) | (with_reducible refine' ev_cut ?_ ?_ ?_) | (with_reducible refine' ev_idx ?_ ?_ ?_) | with_reducible exact pt_none | (with_reducible refine' pt_some ?_) | (with_reducible refine' bt_cmp ?_ ?_ ?_) | (with_reducible refine' bt_not ?_) | (with_reducible refine' bt_bool ?_) | with_reducible exact at_and_nil | with_reducible exact at_or_nil | (with_reducible refine' at_and_cons ?_ ?_) | (with_reducible refine' at_or_cons ?_ ?_) | with_reducible exact xs_nil | (with_reducible refine' xs_cons ?_ ?_) | (with_reducible refine' st_assign ?_ ?_ ?_) | (with_reducible refine' st_aug ?_ ?_ ?_) | (with_reducible refine' st_if ?_ ?_ ?_) | (with_reducible refine' st_append ?_ ?_ ?_ ?_ ?_ ?_) | (with_reducible refine' st_augidx ?_ ?_ ?_ ?_) | (with_reducible refine' st_ret ?_) | with_reducible exact st_ret0 | with_reducible exact st_cont | with_reducible exact st_pass | (with_reducible refine' st_while ?_ ?_) | (with_reducible refine' st_for ?_ (as_name ?_) ?_ ?_ ?_) | (with_reducible refine' ev_len (by assumption) ?_ ?_ ?_ ?_ ?_ ?_ ?_ ?_) | (with_reducible refine' ev_chr (by assumption) ?_ ?_ ?_ ?_ ?_ ?_ ?_ ?_) | (with_reducible refine' ev_range (by assumption) ?_ ?_ ?_ ?_ ?_ ?_ ?_ ?_) | (with_reducible refine' ev_abs (by assumption) ?_ ?_ ?_ ?_ ?_ ?_ ?_ ?_) | (with_reducible refine' ev_count _ ?_ ?_ ?_ ?_ ?_) | (with_reducible refine' ev_split _ ?_ ?_ ?_ ?_ ?_) | (with_reducible refine' ev_index _ ?_ ?_ ?_ ?_) | (with_reducible refine' ev_attr (C := 113) (by assumption) ?_ ?_ ?_ ?_ ?_ ?_) | with_reducible exact ts_nil | (with_reducible refine' ts_one ?_) | ((with_reducible show nsIn _ _ _ = _); k_is) | ((with_reducible show plainGet _ _ _ = _); k_is) | ((with_reducible show hasDictIn _ _ = _); k_is) | ((with_reducible show findIn _ _ _ = _); k_is) | ((with_reducible show noGet _ _ = _); k_is) | ((with_reducible show Stores _ _); first | exact Or.inl rfl | exact Or.inr ⟨rfl, rfl⟩) | ((with_reducible show (_ == _) = false); decide) | ((with_reducible show behindInMarks _ _ = _); with_unfolding_all rfl) | ((with_reducible show _ ≤ _); decide) | ((with_reducible show _ = _); rfl) | ((with_reducible show ∀ _, _ = _); intro _; rfl) | ((with_reducible show ∀ _ _, _ = _); intro _ _; rfl) | ((with_reducible show ∀ _ _ _, _ = _); intro _ _ _; rfl) | (with_reducible refine' bt_val ?_ ?_))
      case tq1 =>
        with_reducible refine' xs_cons ?sq2 ?tq2
        case sq2 =>
          repeat' (first | with_reducible exact ev_int _ _ _ | with_reducible exact ev_str _ _ _ | with_reducible exact ev_none _ _ | with_reducible exact ev_bool _ _ _ | (with_reducible refine' ev_name _ _ ?_ ?_) | (with_reducible refine' ev_binop ?_ ?_) | (with_reducible refine' ev_neg ?_) | (with_reducible refine' ev_cmp ?_ ?_ ?_) | (with_reducible refine' ev_ifexp ?_ ?_ ?_) | (with_reducible refine' ev_list ?_) | (with_reducible refine' ev_tuple ?_) | with_reducible exact es_nil | (with_reducible refine' es_cons ?_ ?_ ?_) | (with_reducible refine' ev_cut ?_ ?_ ?_) | (with_reducible refine' ev_idx ?_ ?_ ?_) | with_reducible exact pt_none | (with_reducible refine' pt_some ?_) | (with_reducible refine' bt_cmp ?_ ?_ ?_) | (with_reducible refine' bt_not ?_) | (with_reducible refine' bt_bool ?_) | with_reducible exact at_and_nil | with_reducible exact at_or_nil | (with_reducible refine' at_and_cons ?_ ?_) | (with_reducible refine' at_or_cons ?_ ?_) | with_reducible exact xs_nil | (with_reducible refine' xs_cons ?_ ?_) | (with_reducible refine' st_assign ?_ ?_ ?_) | (with_reducible refine' st_aug ?_ ?_ ?_) | (with_reducible refine' st_if ?_ ?_ ?_) | (with_reducible refine' st_append ?_ ?_ ?_ ?_ ?_ ?_) | (with_reducible refine' st_augidx ?_ ?_ ?_ ?_) | (with_reducible refine' st_ret ?_) | with_reducible exact st_ret0 | with_reducible exact st_cont | with_reducible exact st_pass | (with_reducible refine' st_while ?_ ?_) | (with_reducible refine' st_for ?_ (as_name ?_) ?_ ?_ ?_) | (with_reducible refine' ev_len (by assumption) ?_ ?_ ?_ ?_ ?_ ?_ ?_ ?_) | (with_reducible refine' ev_chr (by assumption) ?_ ?_ ?_ ?_ ?_ ?_ ?_ ?_) | (with_reducible refine' ev_range (by assumption) ?_ ?_ ?_ ?_ ?_ ?_ ?_ ?_) | (with_reducible refine' ev_abs (by assumption) ?_ ?_ ?_ ?_ ?_ ?_ ?_ ?_) | (with_reducible refine' ev_count _ ?_ ?_ ?_ ?_ ?_) | (with_reducible refine' ev_split _ ?_ ?_ ?_ ?_ ?_) | (with_reducible refine' ev_index _ ?_ ?_ ?_ ?_) | (with_reducible refine' ev_attr (C := 113) (by assumption) ?_ ?_ ?_ ?_ ?_ ?_) | with_reducible exact ts_nil | (with_reducible refine' ts_one ?_) | ((with_reducible show nsIn _ _ _ = _); k_is) | ((with_reducible show plainGet _ _ _ = _); k_is) | ((with_reducible show hasDictIn _ _ = _); k_is) | ((with_reducible show findIn _ _ _ = _); k_is) | ((with_reducible show noGet _ _ = _); k_is) | ((with_reducible show Stores _ _); first | exact Or.inl rfl | exact Or.inr ⟨rfl, rfl⟩) | ((with_reducible show (_ == _) = false); decide) | ((with_reducible show behindInMarks _ _ = _); with_unfolding_all rfl) | ((with_reducible show _ ≤ _); decide) | ((with_reducible show _ = _); rfl) | ((with_reducible show ∀ _, _ = _); intro _; rfl) | ((with_reducible show ∀ _ _, _ = _); intro _ _; rfl) | ((with_reducible show ∀ _ _ _, _ = _); intro _ _ _; rfl) | (with_reducible refine' bt_val ?_ ?_))
        case tq2 =>
          with_reducible refine' xs_cons ?sq3 ?tq3
          case sq3 =>
            repeat' (first | with_reducible exact ev_int _ _ _ | with_reducible exact ev_str _ _ _ | with_reducible exact ev_none _ _ | with_reducible exact ev_bool _ _ _ | (with_reducible refine' ev_name _ _ ?_ ?_) | (with_reducible refine' ev_binop ?_ ?_) | (with_reducible refine' ev_neg ?_) | (with_reducible refine' ev_cmp ?_ ?_ ?_) | (with_reducible refine' ev_ifexp ?_ ?_ ?_) | (with_reducible refine' ev_list ?_) | (with_reducible refine' ev_tuple ?_) | with_reducible exact es_nil | (with_reducible refine' es_cons ?_ ?_ ?_) | (with_reducible refine' ev_cut ?_ ?_ ?_) | (with_reducible refine' ev_idx ?_ ?_ ?_) | with_reducible exact pt_none | (with_reducible refine' pt_some ?_) | (with_reducible refine' bt_cmp ?_ ?_ ?_) | (with_reducible refine' bt_not ?_) | (with_reducible refine' bt_bool ?_) | with_reducible exact at_and_nil | with_reducible exact at_or_nil | (with_reducible refine' at_and_cons ?_ ?_) | (with_reducible refine' at_or_cons ?_ ?_) | with_reducible exact xs_nil | (with_reducible refine' xs_cons ?_ ?_) | (with_reducible refine' st_assign ?_ ?_ ?_) | (with_reducible refine' st_aug ?_ ?_ ?_) | (with_reducible refine' st_if ?_ ?_ ?_) | (with_reducible refine' st_append ?_ ?_ ?_ ?_ ?_ ?_) | (with_reducible refine' st_augidx ?_ ?_ ?_ ?_) | (with_reducible refine' st_ret ?_) | with_reducible exact st_ret0 | with_reducible exact st_cont | with_reducible exact st_pass | (with_reducible refine' st_while ?_ ?_) | (with_reducible refine' st_for ?_ (as_name ?_) ?_ ?_ ?_) | (with_reducible refine' ev_len (by assumption) ?_ ?_ ?_ ?_ ?_ ?_ ?_ ?_) | (with_reducible refine' ev_chr (by assumption) ?_ ?_ ?_ ?_ ?_ ?_ ?_ ?_) | (with_reducible refine' ev_range (by assumption) ?_ ?_ ?_ ?_ ?_ ?_ ?_ ?_) | (with_reducible refine' ev_abs (by assumption) ?_ ?_ ?_ ?_ ?_ ?_ ?_ ?_) | (with_reducible refine' ev_count _ ?_ ?_ ?_ ?_ ?_) | (with_reducible refine' ev_split _ ?_ ?_ ?_ ?_ ?_) | (with_reducible refine' ev_index _ ?_ ?_ ?_ ?_) | (with_reducible refine' ev_attr (C := 113) (by assumption) ?_ ?_ ?_ ?_ ?_ ?_) | with_reducible exact ts_nil | (with_reducible refine' ts_one ?_) | ((with_reducible show nsIn _ _ _ = _); k_is) | ((with_reducible show plainGet _ _ _ = _); k_is) | ((with_reducible show hasDictIn _ _ = _); k_is) | ((with_reducible show findIn _ _ _ = _); k_is) | ((with_reducible show noGet _ _ = _); k_is) | ((with_reducible show Stores _ _); first | exact Or.inl rfl | exact Or.inr ⟨rfl, rfl⟩) | ((with_reducible show (_ == _) = false); decide) | ((with_reducible show behindInMarks _ _ = _); with_unfolding_all rfl) | ((with_reducible show _ ≤ _); decide) | ((with_reducible show _ = _); rfl) | ((with_reducible show ∀ _, _ = _); intro _; rfl) | ((with_reducible show ∀ _ _, _ = _); intro _ _; rfl) | ((with_reducible show ∀ _ _ _, _ = _); intro _ _ _; rfl) | (with_reducible refine' bt_val ?_ ?_))
          case tq3 =>
            with_reducible refine' xs_cons ?sq4 ?tq4
            case sq4 =>
              refine' ExOk.mono (F' := WhS) ?wh ?whm
              case wh => repeat' (first | with_reducible exact ev_int _ _ _ | with_reducible exact ev_str _ _ _ | with_reducible exact ev_none _ _ | with_reducible exact ev_bool _ _ _ | (with_reducible refine' ev_name _ _ ?_ ?_) | (with_reducible refine' ev_binop ?_ ?_) | (with_reducible refine' ev_neg ?_) | (with_reducible refine' ev_cmp ?_ ?_ ?_) | (with_reducible refine' ev_ifexp ?_ ?_ ?_) | (with_reducible refine' ev_list ?_) | (with_reducible refine' ev_tuple ?_) | with_reducible exact es_nil | (with_reducible refine' es_cons ?_ ?_ ?_) | (with_reducible refine' ev_cut ?_ ?_ ?_) | (with_reducible refine' ev_idx ?_ ?_ ?_) | with_reducible exact pt_none | (with_reducible refine' pt_some ?_) | (with_reducible refine' bt_cmp ?_ ?_ ?_) | (with_reducible refine' bt_not ?_) | (with_reducible refine' bt_bool ?_) | with_reducible exact at_and_nil | with_reducible exact at_or_nil | (with_reducible refine' at_and_cons ?_ ?_) | (with_reducible refine' at_or_cons ?_ ?_) | with_reducible exact xs_nil | (with_reducible refine' xs_cons ?_ ?_) | (with_reducible refine' st_assign ?_ ?_ ?_) | (with_reducible refine' st_aug ?_ ?_ ?_) | (with_reducible refine' st_if ?_ ?_ ?_) | (with_reducible refine' st_append ?_ ?_ ?_ ?_ ?_ ?_) | (with_reducible refine' st_augidx ?_ ?_ ?_ ?_) | (with_reducible refine' st_ret ?_) | with_reducible exact st_ret0 | with_reducible exact st_cont | with_reducible exact st_pass | (with_reducible refine' st_while ?_ ?_) | (with_reducible refine' st_for ?_ (as_name ?_) ?_ ?_ ?_) | (with_reducible refine' ev_len (by assumption) ?_ ?_ ?_ ?_ ?_ ?_ ?_ ?_) | (with_reducible refine' ev_chr (by assumption) ?_ ?_ ?_ ?_ ?_ ?_ ?_ ?_) | (with_reducible refine' ev_range (by assumption) ?_ ?_ ?_ ?_ ?_ ?_ ?_ ?_) | (with_reducible refine' ev_abs (by assumption) ?_ ?_ ?_ ?_ ?_ ?_ ?_ ?_) | (with_reducible refine' ev_count _ ?_ ?_ ?_ ?_ ?_) | (with_reducible refine' ev_split _ ?_ ?_ ?_ ?_ ?_) | (with_reducible refine' ev_index _ ?_ ?_ ?_ ?_) | (with_reducible refine' ev_attr (C := 113) (by assumption) ?_ ?_ ?_ ?_ ?_ ?_) | with_reducible exact ts_nil | (with_reducible refine' ts_one ?_) | ((with_reducible show nsIn _ _ _ = _); k_is) | ((with_reducible show plainGet _ _ _ = _); k_is) | ((with_reducible show hasDictIn _ _ = _); k_is) | ((with_reducible show findIn _ _ _ = _); k_is) | ((with_reducible show noGet _ _ = _); k_is) | ((with_reducible show Stores _ _); first | exact Or.inl rfl | exact Or.inr ⟨rfl, rfl⟩) | ((with_reducible show (_ == _) = false); decide) | ((with_reducible show behindInMarks _ _ = _); with_unfolding_all rfl) | ((with_reducible show _ ≤ _); decide) | ((with_reducible show _ = _); rfl) | ((with_reducible show ∀ _, _ = _); intro _; rfl) | ((with_reducible show ∀ _ _, _ = _); intro _ _; rfl) | ((with_reducible show ∀ _ _ _, _ = _); intro _ _ _; rfl) | (with_reducible refine' bt_val ?_ ?_))
              case whm =>
                intro σ Q hh
                refine hide fun Gh kh => ?_
                obtain ⟨T, wr, hv, hPT, hL, li0, ln0, lm0, lx0, ls0, lt0, hQ⟩ := hh
                refine kh ?_
                clear kh Gh
                refine whileW_inv (fun k σ₁ => ∃ A B', LpI T wr A B' ∧ k = B'.length ∧ SameBut ["i", "n", "mark"] σ σ₁ ∧ σ₁.loc "i" = some (.int ((flat A).length : Nat)) ∧ σ₁.loc "n" = some (.int (vis A : Nat)) ∧ σ₁.loc "mark" = some (.str (mkS (mkF [] A)))) ?step T.length _ ?init
                case init => exact ⟨[], T, LpI.init _ _, rfl, SameBut.refl _ _, li0, ln0, lm0⟩
                case step =>
                  intro k σ₁ K hI' kn kc
                  refine hide fun Gh kh => ?_
                  obtain ⟨A, B', hI, rfl, hs, li, ln, lm⟩ := hI'
                  have lx := hs.get (by decide) lx0
                  have ls := hs.get (by decide) ls0
                  have lt := hs.get (by decide) lt0
                  have e : flat T = flat A ++ flat B' := by rw [hI.all, flat_app]
                  have hvA : vis T = vis A + vis B' := by rw [← vis_app, ← hI.all]
                  have hPAB := hPT
                  rw [hI.all, PW_app] at hPAB
                  refine kh ?_
                  clear kh Gh
                  refine get_W ln (get_W lx (cmp_ltI ?_))
                  by_cases hlt : vis A < wr
                  · refine PySem.W.ite_pos (decide_eq_true (by (first | lia | omega))) ?_
                    refine hide fun Gh kh => ?_
                    obtain ⟨t, B'', rfl⟩ : ∃ t B'', B' = t :: B'' := by
                      cases B' with
                      | nil => simp only [vis] at hvA; (first | lia | omega)
                      | cons t B'' => exact ⟨t, B'', rfl⟩
                    have hnx := hI.next hlt
                    have hsz : (flat A).length < (flat T).length := by
                      rw [e, List.length_append]
                      cases t <;> simp [flat, Tk.f]
                    have hkn : ∀ l : Loc, SameBut ["i", "n", "mark"] σ ⟨l, σ₁.H⟩ → l "i" = some (.int ((flat (A ++ [t])).length : Nat)) → l "n" = some (.int (vis (A ++ [t]) : Nat)) → l "mark" = some (.str (mkS (mkF [] (A ++ [t])))) → K .next ⟨l, σ₁.H⟩ :=
                      fun l h1 h2 h3 h4 => kn B''.length _ (by simp) ⟨A ++ [t], B'', hnx, rfl, h1, h2, h3, h4⟩
                    rw [flat_app, vis_app, mkF_app, List.length_append] at hkn
                    refine kh ?_
                    clear kh Gh kn kc
                    refine get_W li (get_W ls (cmp_ltI ?_))
                    refine PySem.W.ite_pos (decide_eq_true (by (first | lia | omega))) ?_
                    rw [ofS0, ofS1]
                    refine PySem.W.ite_pos rfl (seq_ex (fun σ' => ∃ l, σ' = ⟨l, σ₁.H⟩ ∧ K .next ⟨l, σ₁.H⟩) (fun R hR => ?_) fun σ' h => by obtain ⟨l, rfl, h⟩ := h; exact h)
                    refine get_W lt (get_W li ?_)
                    cases t with
                    | op j =>
                      have hg0 : (flat T)[(flat A).length]? = some 0 := by rw [e]; exact get_app (flat A) (flat (.op j :: B'')) 0
                      have hg1 : (flat T)[(flat A).length + 1]? = some j := by rw [e]; exact get_app (flat A) (flat (.op j :: B'')) 1
                      refine idx_S hg0 (by (first | lia | omega)) (cmp_eqS (PySem.W.ite_pos (by rw [mkS_beq]; rfl) ?_))
                      refine seq_to ⟨σ₁.loc.set "i" (.int (((flat A).length + 1 : Nat) : Int)), σ₁.H⟩ (fun R hR => get_W li (in_addI hR)) ?_
                      refine seq_to ⟨(σ₁.loc.set "i" (.int (((flat A).length + 1 : Nat) : Int))).set "mark" (.str (mkS [j])), σ₁.H⟩ (fun R hR => get_W lt (get_W rfl (idx_S hg1 (by (first | lia | omega)) hR))) ?_
                      exact seq_to _ (fun R hR => get_W rfl (in_addI hR)) (hR _ ⟨_, rfl, hkn _ (((hs.set (by decide)).set (by decide)).set (by decide)) rfl ln rfl⟩)
                    | cl =>
                      have hg0 : (flat T)[(flat A).length]? = some 1 := by rw [e]; exact get_app (flat A) (flat (.cl :: B'')) 0
                      refine idx_S hg0 (by (first | lia | omega)) (cmp_eqS (PySem.W.ite_neg (by rw [mkS_beq]; decide) ?_))
                      refine seq_to _ (fun R' hR' => get_W lt (get_W li (idx_S hg0 (by (first | lia | omega)) (cmp_eqS (PySem.W.ite_pos (by rw [mkS_beq]; rfl) (seq_to _ (fun R hR => get_W li (in_addI hR)) (seq_to _ (fun R hR => hR) hR'))))))) (hR _ ⟨_, rfl, hkn _ ((hs.set (by decide)).set (by decide)) rfl ln ?_⟩)
                      rw [ofSe]; rfl
                    | sg c =>
                      have hc2 : 2 ≤ c := hPAB.2.1
                      have hg0 : (flat T)[(flat A).length]? = some c := by rw [e]; exact get_app (flat A) (flat (.sg c :: B'')) 0
                      refine idx_S hg0 (by (first | lia | omega)) (cmp_eqS (PySem.W.ite_neg (by rw [mkS_beq]; simp; (first | lia | omega)) ?_))
                      exact seq_to _ (fun R' hR' => get_W lt (get_W li (idx_S hg0 (by (first | lia | omega)) (cmp_eqS (PySem.W.ite_neg (by rw [mkS_beq]; simp; (first | lia | omega)) (seq_to _ (fun R hR => get_W li (in_addI hR)) (seq_to _ (fun R hR => get_W ln (in_addI hR)) hR'))))))) (hR _ ⟨_, rfl, hkn _ ((hs.set (by decide)).set (by decide)) rfl rfl lm⟩)
                  · have hw : vis A = wr := by have := hI.le; (first | lia | omega)
                    have hA := hI.done hw
                    refine PySem.W.ite_neg (by rw [decide_eq_true_eq]; (first | lia | omega)) ?_
                    exact PySem.W.ite_neg (by decide) (hQ _ hs (by rw [← hA]; exact li) (by rw [← hA]; exact lm))
            case tq4 =>
              refine' XsOk.mono (F' := Rs2 113 W') ?r2 ?r2m
              case r2 =>
                with_reducible refine' xs_cons ?sq5 ?tq5
                case sq5 =>
                  repeat' (first | with_reducible exact ev_int _ _ _ | with_reducible exact ev_str _ _ _ | with_reducible exact ev_none _ _ | with_reducible exact ev_bool _ _ _ | (with_reducible refine' ev_name _ _ ?_ ?_) | (with_reducible refine' ev_binop ?_ ?_) | (with_reducible refine' ev_neg ?_) | (with_reducible refine' ev_cmp ?_ ?_ ?_) | (with_reducible refine' ev_ifexp ?_ ?_ ?_) | (with_reducible refine' ev_list ?_) | (with_reducible refine' ev_tuple ?_) | with_reducible exact es_nil | (with_reducible refine' es_cons ?_ ?_ ?_) | (with_reducible refine' ev_cut ?_ ?_ ?_) | (with_reducible refine' ev_idx ?_ ?_ ?_) | with_reducible exact pt_none | (with_reducible refine' pt_some ?_) | (with_reducible refine' bt_cmp ?_ ?_ ?_) | (with_reducible refine' bt_not ?_) | (with_reducible refine' bt_bool ?_) | with_reducible exact at_and_nil | with_reducible exact at_or_nil | (with_reducible refine' at_and_cons ?_ ?_) | (with_reducible refine' at_or_cons ?_ ?_) | with_reducible exact xs_nil | (with_reducible refine' xs_cons ?_ ?_) | (with_reducible refine' st_assign ?_ ?_ ?_) | (with_reducible refine' st_aug ?_ ?_ ?_) | (with_reducible refine' st_if ?_ ?_ ?_) | (with_reducible refine' st_append ?_ ?_ ?_ ?_ ?_ ?_) | (with_reducible refine' st_augidx ?_ ?_ ?_ ?_) | (with_reducible refine' st_ret ?_) | with_reducible exact st_ret0 | with_reducible exact st_cont | with_reducible exact st_pass | (with_reducible refine' st_while ?_ ?_) | (with_reducible refine' st_for ?_ (as_name ?_) ?_ ?_ ?_) | (with_reducible refine' ev_len (by assumption) ?_ ?_ ?_ ?_ ?_ ?_ ?_ ?_) | (with_reducible refine' ev_chr (by assumption) ?_ ?_ ?_ ?_ ?_ ?_ ?_ ?_) | (with_reducible refine' ev_range (by assumption) ?_ ?_ ?_ ?_ ?_ ?_ ?_ ?_) | (with_reducible refine' ev_abs (by assumption) ?_ ?_ ?_ ?_ ?_ ?_ ?_ ?_) | (with_reducible refine' ev_count _ ?_ ?_ ?_ ?_ ?_) | (with_reducible refine' ev_split _ ?_ ?_ ?_ ?_ ?_) | (with_reducible refine' ev_index _ ?_ ?_ ?_ ?_) | (with_reducible refine' ev_attr (C := 113) (by assumption) ?_ ?_ ?_ ?_ ?_ ?_) | with_reducible exact ts_nil | (with_reducible refine' ts_one ?_) | ((with_reducible show nsIn _ _ _ = _); k_is) | ((with_reducible show plainGet _ _ _ = _); k_is) | ((with_reducible show hasDictIn _ _ = _); k_is) | ((with_reducible show findIn _ _ _ = _); k_is) | ((with_reducible show noGet _ _ = _); k_is) | ((with_reducible show Stores _ _); first | exact Or.inl rfl | exact Or.inr ⟨rfl, rfl⟩) | ((with_reducible show (_ == _) = false); decide) | ((with_reducible show behindInMarks _ _ = _); with_unfolding_all rfl) | ((with_reducible show _ ≤ _); decide) | ((with_reducible show _ = _); rfl) | ((with_reducible show ∀ _, _ = _); intro _; rfl) | ((with_reducible show ∀ _ _, _ = _); intro _ _; rfl) | ((with_reducible show ∀ _ _ _, _ = _); intro _ _ _; rfl) | (with_reducible refine' bt_val ?_ ?_))
                case tq5 =>
                  with_reducible refine' xs_cons ?sq6 ?tq6
                  case sq6 =>
                    repeat' (first | with_reducible exact ev_int _ _ _ | with_reducible exact ev_str _ _ _ | with_reducible exact ev_none _ _ | with_reducible exact ev_bool _ _ _ | (with_reducible refine' ev_name _ _ ?_ ?_) | (with_reducible refine' ev_binop ?_ ?_) | (with_reducible refine' ev_neg ?_) | (with_reducible refine' ev_cmp ?_ ?_ ?_) | (with_reducible refine' ev_ifexp ?_ ?_ ?_) | (with_reducible refine' ev_list ?_) | (with_reducible refine' ev_tuple ?_) | with_reducible exact es_nil | (with_reducible refine' es_cons ?_ ?_ ?_) | (with_reducible refine' ev_cut ?_ ?_ ?_) | (with_reducible refine' ev_idx ?_ ?_ ?_) | with_reducible exact pt_none | (with_reducible refine' pt_some ?_) | (with_reducible refine' bt_cmp ?_ ?_ ?_) | (with_reducible refine' bt_not ?_) | (with_reducible refine' bt_bool ?_) | with_reducible exact at_and_nil | with_reducible exact at_or_nil | (with_reducible refine' at_and_cons ?_ ?_) | (with_reducible refine' at_or_cons ?_ ?_) | with_reducible exact xs_nil | (with_reducible refine' xs_cons ?_ ?_) | (with_reducible refine' st_assign ?_ ?_ ?_) | (with_reducible refine' st_aug ?_ ?_ ?_) | (with_reducible refine' st_if ?_ ?_ ?_) | (with_reducible refine' st_append ?_ ?_ ?_ ?_ ?_ ?_) | (with_reducible refine' st_augidx ?_ ?_ ?_ ?_) | (with_reducible refine' st_ret ?_) | with_reducible exact st_ret0 | with_reducible exact st_cont | with_reducible exact st_pass | (with_reducible refine' st_while ?_ ?_) | (with_reducible refine' st_for ?_ (as_name ?_) ?_ ?_ ?_) | (with_reducible refine' ev_len (by assumption) ?_ ?_ ?_ ?_ ?_ ?_ ?_ ?_) | (with_reducible refine' ev_chr (by assumption) ?_ ?_ ?_ ?_ ?_ ?_ ?_ ?_) | (with_reducible refine' ev_range (by assumption) ?_ ?_ ?_ ?_ ?_ ?_ ?_ ?_) | (with_reducible refine' ev_abs (by assumption) ?_ ?_ ?_ ?_ ?_ ?_ ?_ ?_) | (with_reducible refine' ev_count _ ?_ ?_ ?_ ?_ ?_) | (with_reducible refine' ev_split _ ?_ ?_ ?_ ?_ ?_) | (with_reducible refine' ev_index _ ?_ ?_ ?_ ?_) | (with_reducible refine' ev_attr (C := 113) (by assumption) ?_ ?_ ?_ ?_ ?_ ?_) | with_reducible exact ts_nil | (with_reducible refine' ts_one ?_) | ((with_reducible show nsIn _ _ _ = _); k_is) | ((with_reducible show plainGet _ _ _ = _); k_is) | ((with_reducible show hasDictIn _ _ = _); k_is) | ((with_reducible show findIn _ _ _ = _); k_is) | ((with_reducible show noGet _ _ = _); k_is) | ((with_reducible show Stores _ _); first | exact Or.inl rfl | exact Or.inr ⟨rfl, rfl⟩) | ((with_reducible show (_ == _) = false); decide) | ((with_reducible show behindInMarks _ _ = _); with_unfolding_all rfl) | ((with_reducible show _ ≤ _); decide) | ((with_reducible show _ = _); rfl) | ((with_reducible show ∀ _, _ = _); intro _; rfl) | ((with_reducible show ∀ _ _, _ = _); intro _ _; rfl) | ((with_reducible show ∀ _ _ _, _ = _); intro _ _ _; rfl) | (with_reducible refine' bt_val ?_ ?_))
                  case tq6 =>
                    with_reducible refine' xs_cons ?sq7 ?tq7
                    case sq7 =>
                      refine' ExOk.mono (F' := IfS) ?iff ?iffm
                      case iff => repeat' (first | with_reducible exact ev_int _ _ _ | with_reducible exact ev_str _ _ _ | with_reducible exact ev_none _ _ | with_reducible exact ev_bool _ _ _ | (with_reducible refine' ev_name _ _ ?_ ?_) | (with_reducible refine' ev_binop ?_ ?_) | (with_reducible refine' ev_neg ?_) | (with_reducible refine' ev_cmp ?_ ?_ ?_) | (with_reducible refine' ev_ifexp ?_ ?_ ?_) | (with_reducible refine' ev_list ?_) | (with_reducible refine' ev_tuple ?_) | with_reducible exact es_nil | (with_reducible refine' es_cons ?_ ?_ ?_) | (with_reducible refine' ev_cut ?_ ?_ ?_) | (with_reducible refine' ev_idx ?_ ?_ ?_) | with_reducible exact pt_none | (with_reducible refine' pt_some ?_) | (with_reducible refine' bt_cmp ?_ ?_ ?_) | (with_reducible refine' bt_not ?_) | (with_reducible refine' bt_bool ?_) | with_reducible exact at_and_nil | with_reducible exact at_or_nil | (with_reducible refine' at_and_cons ?_ ?_) | (with_reducible refine' at_or_cons ?_ ?_) | with_reducible exact xs_nil | (with_reducible refine' xs_cons ?_ ?_) | (with_reducible refine' st_assign ?_ ?_ ?_) | (with_reducible refine' st_aug ?_ ?_ ?_) | (with_reducible refine' st_if ?_ ?_ ?_) | (with_reducible refine' st_append ?_ ?_ ?_ ?_ ?_ ?_) | (with_reducible refine' st_augidx ?_ ?_ ?_ ?_) | (with_reducible refine' st_ret ?_) | with_reducible exact st_ret0 | with_reducible exact st_cont | with_reducible exact st_pass | (with_reducible refine' st_while ?_ ?_) | (with_reducible refine' st_for ?_ (as_name ?_) ?_ ?_ ?_) | (with_reducible refine' ev_len (by assumption) ?_ ?_ ?_ ?_ ?_ ?_ ?_ ?_) | (with_reducible refine' ev_chr (by assumption) ?_ ?_ ?_ ?_ ?_ ?_ ?_ ?_) | (with_reducible refine' ev_range (by assumption) ?_ ?_ ?_ ?_ ?_ ?_ ?_ ?_) | (with_reducible refine' ev_abs (by assumption) ?_ ?_ ?_ ?_ ?_ ?_ ?_ ?_) | (with_reducible refine' ev_count _ ?_ ?_ ?_ ?_ ?_) | (with_reducible refine' ev_split _ ?_ ?_ ?_ ?_ ?_) | (with_reducible refine' ev_index _ ?_ ?_ ?_ ?_) | (with_reducible refine' ev_attr (C := 113) (by assumption) ?_ ?_ ?_ ?_ ?_ ?_) | with_reducible exact ts_nil | (with_reducible refine' ts_one ?_) | ((with_reducible show nsIn _ _ _ = _); k_is) | ((with_reducible show plainGet _ _ _ = _); k_is) | ((with_reducible show hasDictIn _ _ = _); k_is) | ((with_reducible show findIn _ _ _ = _); k_is) | ((with_reducible show noGet _ _ = _); k_is) | ((with_reducible show Stores _ _); first | exact Or.inl rfl | exact Or.inr ⟨rfl, rfl⟩) | ((with_reducible show (_ == _) = false); decide) | ((with_reducible show behindInMarks _ _ = _); with_unfolding_all rfl) | ((with_reducible show _ ≤ _); decide) | ((with_reducible show _ = _); rfl) | ((with_reducible show ∀ _, _ = _); intro _; rfl) | ((with_reducible show ∀ _ _, _ = _); intro _ _; rfl) | ((with_reducible show ∀ _ _ _, _ = _); intro _ _ _; rfl) | (with_reducible refine' bt_val ?_ ?_))
                      case iffm =>
                        intro σ Q hh
                        refine hide fun Gh kh => ?_
                        obtain ⟨m, X, Y, hm, hX, hY, lm, l1, l2, hQ⟩ := hh
                        refine kh ?_
                        clear kh Gh
                        refine get_W lm ⟨by rw [mkS_len]; (first | lia | omega), ?_⟩
                        rw [mkS_len]
                        cases m with
                        | nil =>
                          exact PySem.W.ite_neg (by simp) (hQ _ (SameBut.refl _ _) (by rw [post, List.append_nil]; exact l1) l2)
                        | cons k r =>
                          simp only [List.length_cons] at hm
                          refine PySem.W.ite_pos (by simp) ?_
                          refine seq_to ⟨σ.loc.set "line1" (.str (mkS (X ++ [1]))), σ.H⟩ (fun R hR => get_W l1 (bin_addS (x := mkS X) (by rw [mkS_len, sizeLine_eq]; simp only [ofS1, mkS_len, List.length_cons, List.length_nil]; (first | lia | omega)) (by rw [ofS1, mkS_append]; exact hR))) ?_
                          refine seq_to ⟨(σ.loc.set "line1" (.str (mkS (X ++ [1])))).set "line2" (.str (mkS (([0] ++ k :: r) ++ Y))), σ.H⟩ (fun R hR => ?_) (hQ _ (((SameBut.refl _ _).set (by decide)).set (by decide)) rfl rfl)
                          rw [ofS0]
                          refine get_W lm (bin_addS (by rw [mkS_len, mkS_len, sizeLine_eq]; simp only [List.length_cons, List.length_nil]; (first | lia | omega)) (get_W l2 ?_))
                          rw [mkS_append]
                          refine bin_addS (by rw [mkS_len, mkS_len, sizeLine_eq, List.length_append]; simp only [List.length_cons, List.length_nil]; (first | lia | omega)) ?_
                          rw [mkS_append]
                          exact hR
                    case tq7 =>
                      with_reducible refine' xs_cons ?sq8 ?tq8
                      case sq8 =>
                        repeat' (first | with_reducible exact ev_int _ _ _ | with_reducible exact ev_str _ _ _ | with_reducible exact ev_none _ _ | with_reducible exact ev_bool _ _ _ | (with_reducible refine' ev_name _ _ ?_ ?_) | (with_reducible refine' ev_binop ?_ ?_) | (with_reducible refine' ev_neg ?_) | (with_reducible refine' ev_cmp ?_ ?_ ?_) | (with_reducible refine' ev_ifexp ?_ ?_ ?_) | (with_reducible refine' ev_list ?_) | (with_reducible refine' ev_tuple ?_) | with_reducible exact es_nil | (with_reducible refine' es_cons ?_ ?_ ?_) | (with_reducible refine' ev_cut ?_ ?_ ?_) | (with_reducible refine' ev_idx ?_ ?_ ?_) | with_reducible exact pt_none | (with_reducible refine' pt_some ?_) | (with_reducible refine' bt_cmp ?_ ?_ ?_) | (with_reducible refine' bt_not ?_) | (with_reducible refine' bt_bool ?_) | with_reducible exact at_and_nil | with_reducible exact at_or_nil | (with_reducible refine' at_and_cons ?_ ?_) | (with_reducible refine' at_or_cons ?_ ?_) | with_reducible exact xs_nil | (with_reducible refine' xs_cons ?_ ?_) | (with_reducible refine' st_assign ?_ ?_ ?_) | (with_reducible refine' st_aug ?_ ?_ ?_) | (with_reducible refine' st_if ?_ ?_ ?_) | (with_reducible refine' st_append ?_ ?_ ?_ ?_ ?_ ?_) | (with_reducible refine' st_augidx ?_ ?_ ?_ ?_) | (with_reducible refine' st_ret ?_) | with_reducible exact st_ret0 | with_reducible exact st_cont | with_reducible exact st_pass | (with_reducible refine' st_while ?_ ?_) | (with_reducible refine' st_for ?_ (as_name ?_) ?_ ?_ ?_) | (with_reducible refine' ev_len (by assumption) ?_ ?_ ?_ ?_ ?_ ?_ ?_ ?_) | (with_reducible refine' ev_chr (by assumption) ?_ ?_ ?_ ?_ ?_ ?_ ?_ ?_) | (with_reducible refine' ev_range (by assumption) ?_ ?_ ?_ ?_ ?_ ?_ ?_ ?_) | (with_reducible refine' ev_abs (by assumption) ?_ ?_ ?_ ?_ ?_ ?_ ?_ ?_) | (with_reducible refine' ev_count _ ?_ ?_ ?_ ?_ ?_) | (with_reducible refine' ev_split _ ?_ ?_ ?_ ?_ ?_) | (with_reducible refine' ev_index _ ?_ ?_ ?_ ?_) | (with_reducible refine' ev_attr (C := 113) (by assumption) ?_ ?_ ?_ ?_ ?_ ?_) | with_reducible exact ts_nil | (with_reducible refine' ts_one ?_) | ((with_reducible show nsIn _ _ _ = _); k_is) | ((with_reducible show plainGet _ _ _ = _); k_is) | ((with_reducible show hasDictIn _ _ = _); k_is) | ((with_reducible show findIn _ _ _ = _); k_is) | ((with_reducible show noGet _ _ = _); k_is) | ((with_reducible show Stores _ _); first | exact Or.inl rfl | exact Or.inr ⟨rfl, rfl⟩) | ((with_reducible show (_ == _) = false); decide) | ((with_reducible show behindInMarks _ _ = _); with_unfolding_all rfl) | ((with_reducible show _ ≤ _); decide) | ((with_reducible show _ = _); rfl) | ((with_reducible show ∀ _, _ = _); intro _; rfl) | ((with_reducible show ∀ _ _, _ = _); intro _ _; rfl) | ((with_reducible show ∀ _ _ _, _ = _); intro _ _ _; rfl) | (with_reducible refine' bt_val ?_ ?_))
                      case tq8 =>
                        with_reducible refine' xs_cons ?sq9 ?tq9
                        case sq9 =>
                          refine' st_meth (C := 113) (f := 67) G ?m1 ?m2 ?m3 ?m4 ?m5 ?m6 (hop' _ _ _ G) ?m7 ?m8 ?m9 ?m10 ?m11
                          case m1 => repeat' (first | with_reducible exact ev_int _ _ _ | with_reducible exact ev_str _ _ _ | with_reducible exact ev_none _ _ | with_reducible exact ev_bool _ _ _ | (with_reducible refine' ev_name _ _ ?_ ?_) | (with_reducible refine' ev_binop ?_ ?_) | (with_reducible refine' ev_neg ?_) | (with_reducible refine' ev_cmp ?_ ?_ ?_) | (with_reducible refine' ev_ifexp ?_ ?_ ?_) | (with_reducible refine' ev_list ?_) | (with_reducible refine' ev_tuple ?_) | with_reducible exact es_nil | (with_reducible refine' es_cons ?_ ?_ ?_) | (with_reducible refine' ev_cut ?_ ?_ ?_) | (with_reducible refine' ev_idx ?_ ?_ ?_) | with_reducible exact pt_none | (with_reducible refine' pt_some ?_) | (with_reducible refine' bt_cmp ?_ ?_ ?_) | (with_reducible refine' bt_not ?_) | (with_reducible refine' bt_bool ?_) | with_reducible exact at_and_nil | with_reducible exact at_or_nil | (with_reducible refine' at_and_cons ?_ ?_) | (with_reducible refine' at_or_cons ?_ ?_) | with_reducible exact xs_nil | (with_reducible refine' xs_cons ?_ ?_) | (with_reducible refine' st_assign ?_ ?_ ?_) | (with_reducible refine' st_aug ?_ ?_ ?_) | (with_reducible refine' st_if ?_ ?_ ?_) | (with_reducible refine' st_append ?_ ?_ ?_ ?_ ?_ ?_) | (with_reducible refine' st_augidx ?_ ?_ ?_ ?_) | (with_reducible refine' st_ret ?_) | with_reducible exact st_ret0 | with_reducible exact st_cont | with_reducible exact st_pass | (with_reducible refine' st_while ?_ ?_) | (with_reducible refine' st_for ?_ (as_name ?_) ?_ ?_ ?_) | (with_reducible refine' ev_len (by assumption) ?_ ?_ ?_ ?_ ?_ ?_ ?_ ?_) | (with_reducible refine' ev_chr (by assumption) ?_ ?_ ?_ ?_ ?_ ?_ ?_ ?_) | (with_reducible refine' ev_range (by assumption) ?_ ?_ ?_ ?_ ?_ ?_ ?_ ?_) | (with_reducible refine' ev_abs (by assumption) ?_ ?_ ?_ ?_ ?_ ?_ ?_ ?_) | (with_reducible refine' ev_count _ ?_ ?_ ?_ ?_ ?_) | (with_reducible refine' ev_split _ ?_ ?_ ?_ ?_ ?_) | (with_reducible refine' ev_index _ ?_ ?_ ?_ ?_) | (with_reducible refine' ev_attr (C := 113) (by assumption) ?_ ?_ ?_ ?_ ?_ ?_) | with_reducible exact ts_nil | (with_reducible refine' ts_one ?_) | ((with_reducible show nsIn _ _ _ = _); k_is) | ((with_reducible show plainGet _ _ _ = _); k_is) | ((with_reducible show hasDictIn _ _ = _); k_is) | ((with_reducible show findIn _ _ _ = _); k_is) | ((with_reducible show noGet _ _ = _); k_is) | ((with_reducible show Stores _ _); first | exact Or.inl rfl | exact Or.inr ⟨rfl, rfl⟩) | ((with_reducible show (_ == _) = false); decide) | ((with_reducible show behindInMarks _ _ = _); with_unfolding_all rfl) | ((with_reducible show _ ≤ _); decide) | ((with_reducible show _ = _); rfl) | ((with_reducible show ∀ _, _ = _); intro _; rfl) | ((with_reducible show ∀ _ _, _ = _); intro _ _; rfl) | ((with_reducible show ∀ _ _ _, _ = _); intro _ _ _; rfl) | (with_reducible refine' bt_val ?_ ?_))
                          case m2 => repeat' (first | with_reducible exact ev_int _ _ _ | with_reducible exact ev_str _ _ _ | with_reducible exact ev_none _ _ | with_reducible exact ev_bool _ _ _ | (with_reducible refine' ev_name _ _ ?_ ?_) | (with_reducible refine' ev_binop ?_ ?_) | (with_reducible refine' ev_neg ?_) | (with_reducible refine' ev_cmp ?_ ?_ ?_) | (with_reducible refine' ev_ifexp ?_ ?_ ?_) | (with_reducible refine' ev_list ?_) | (with_reducible refine' ev_tuple ?_) | with_reducible exact es_nil | (with_reducible refine' es_cons ?_ ?_ ?_) | (with_reducible refine' ev_cut ?_ ?_ ?_) | (with_reducible refine' ev_idx ?_ ?_ ?_) | with_reducible exact pt_none | (with_reducible refine' pt_some ?_) | (with_reducible refine' bt_cmp ?_ ?_ ?_) | (with_reducible refine' bt_not ?_) | (with_reducible refine' bt_bool ?_) | with_reducible exact at_and_nil | with_reducible exact at_or_nil | (with_reducible refine' at_and_cons ?_ ?_) | (with_reducible refine' at_or_cons ?_ ?_) | with_reducible exact xs_nil | (with_reducible refine' xs_cons ?_ ?_) | (with_reducible refine' st_assign ?_ ?_ ?_) | (with_reducible refine' st_aug ?_ ?_ ?_) | (with_reducible refine' st_if ?_ ?_ ?_) | (with_reducible refine' st_append ?_ ?_ ?_ ?_ ?_ ?_) | (with_reducible refine' st_augidx ?_ ?_ ?_ ?_) | (with_reducible refine' st_ret ?_) | with_reducible exact st_ret0 | with_reducible exact st_cont | with_reducible exact st_pass | (with_reducible refine' st_while ?_ ?_) | (with_reducible refine' st_for ?_ (as_name ?_) ?_ ?_ ?_) | (with_reducible refine' ev_len (by assumption) ?_ ?_ ?_ ?_ ?_ ?_ ?_ ?_) | (with_reducible refine' ev_chr (by assumption) ?_ ?_ ?_ ?_ ?_ ?_ ?_ ?_) | (with_reducible refine' ev_range (by assumption) ?_ ?_ ?_ ?_ ?_ ?_ ?_ ?_) | (with_reducible refine' ev_abs (by assumption) ?_ ?_ ?_ ?_ ?_ ?_ ?_ ?_) | (with_reducible refine' ev_count _ ?_ ?_ ?_ ?_ ?_) | (with_reducible refine' ev_split _ ?_ ?_ ?_ ?_ ?_) | (with_reducible refine' ev_index _ ?_ ?_ ?_ ?_) | (with_reducible refine' ev_attr (C := 113) (by assumption) ?_ ?_ ?_ ?_ ?_ ?_) | with_reducible exact ts_nil | (with_reducible refine' ts_one ?_) | ((with_reducible show nsIn _ _ _ = _); k_is) | ((with_reducible show plainGet _ _ _ = _); k_is) | ((with_reducible show hasDictIn _ _ = _); k_is) | ((with_reducible show findIn _ _ _ = _); k_is) | ((with_reducible show noGet _ _ = _); k_is) | ((with_reducible show Stores _ _); first | exact Or.inl rfl | exact Or.inr ⟨rfl, rfl⟩) | ((with_reducible show (_ == _) = false); decide) | ((with_reducible show behindInMarks _ _ = _); with_unfolding_all rfl) | ((with_reducible show _ ≤ _); decide) | ((with_reducible show _ = _); rfl) | ((with_reducible show ∀ _, _ = _); intro _; rfl) | ((with_reducible show ∀ _ _, _ = _); intro _ _; rfl) | ((with_reducible show ∀ _ _ _, _ = _); intro _ _ _; rfl) | (with_reducible refine' bt_val ?_ ?_))
                          case m3 => k_is
                          case m4 => k_is
                          case m5 => k_is
                          case m6 => k_is
                          case m7 => rfl
                          case m8 => rfl
                          case m9 => rfl
                          case m10 => rfl
                          case m11 => rfl
                        case tq9 =>
                          repeat' (first | with_reducible exact ev_int _ _ _ | with_reducible exact ev_str _ _ _ | with_reducible exact ev_none _ _ | with_reducible exact ev_bool _ _ _ | (with_reducible refine' ev_name _ _ ?_ ?_) | (with_reducible refine' ev_binop ?_ ?_) | (with_reducible refine' ev_neg ?_) | (with_reducible refine' ev_cmp ?_ ?_ ?_) | (with_reducible refine' ev_ifexp ?_ ?_ ?_) | (with_reducible refine' ev_list ?_) | (with_reducible refine' ev_tuple ?_) | with_reducible exact es_nil | (with_reducible refine' es_cons ?_ ?_ ?_) | (with_reducible refine' ev_cut ?_ ?_ ?_) | (with_reducible refine' ev_idx ?_ ?_ ?_) | with_reducible exact pt_none | (with_reducible refine' pt_some ?_) | (with_reducible refine' bt_cmp ?_ ?_ ?_) | (with_reducible refine' bt_not ?_) | (with_reducible refine' bt_bool ?_) | with_reducible exact at_and_nil | with_reducible exact at_or_nil | (with_reducible refine' at_and_cons ?_ ?_) | (with_reducible refine' at_or_cons ?_ ?_) | with_reducible exact xs_nil | (with_reducible refine' xs_cons ?_ ?_) | (with_reducible refine' st_assign ?_ ?_ ?_) | (with_reducible refine' st_aug ?_ ?_ ?_) | (with_reducible refine' st_if ?_ ?_ ?_) | (with_reducible refine' st_append ?_ ?_ ?_ ?_ ?_ ?_) | (with_reducible refine' st_augidx ?_ ?_ ?_ ?_) | (with_reducible refine' st_ret ?_) | with_reducible exact st_ret0 | with_reducible exact st_cont | with_reducible exact st_pass | (with_reducible refine' st_while ?_ ?_) | (with_reducible refine' st_for ?_ (as_name ?_) ?_ ?_ ?_) | (with_reducible refine' ev_len (by assumption) ?_ ?_ ?_ ?_ ?_ ?_ ?_ ?_) | (with_reducible refine' ev_chr (by assumption) ?_ ?_ ?_ ?_ ?_ ?_ ?_ ?_) | (with_reducible refine' ev_range (by assumption) ?_ ?_ ?_ ?_ ?_ ?_ ?_ ?_) | (with_reducible refine' ev_abs (by assumption) ?_ ?_ ?_ ?_ ?_ ?_ ?_ ?_) | (with_reducible refine' ev_count _ ?_ ?_ ?_ ?_ ?_) | (with_reducible refine' ev_split _ ?_ ?_ ?_ ?_ ?_) | (with_reducible refine' ev_index _ ?_ ?_ ?_ ?_) | (with_reducible refine' ev_attr (C := 113) (by assumption) ?_ ?_ ?_ ?_ ?_ ?_) | with_reducible exact ts_nil | (with_reducible refine' ts_one ?_) | ((with_reducible show nsIn _ _ _ = _); k_is) | ((with_reducible show plainGet _ _ _ = _); k_is) | ((with_reducible show hasDictIn _ _ = _); k_is) | ((with_reducible show findIn _ _ _ = _); k_is) | ((with_reducible show noGet _ _ = _); k_is) | ((with_reducible show Stores _ _); first | exact Or.inl rfl | exact Or.inr ⟨rfl, rfl⟩) | ((with_reducible show (_ == _) = false); decide) | ((with_reducible show behindInMarks _ _ = _); with_unfolding_all rfl) | ((with_reducible show _ ≤ _); decide) | ((with_reducible show _ = _); rfl) | ((with_reducible show ∀ _, _ = _); intro _; rfl) | ((with_reducible show ∀ _ _, _ = _); intro _ _; rfl) | ((with_reducible show ∀ _ _ _, _ = _); intro _ _ _; rfl) | (with_reducible refine' bt_val ?_ ?_))
              case r2m =>
                intro σ Q hh
                refine hide fun Gh kh => ?_
                obtain ⟨fs, a, xs, line, m, X, Y, hmo, hXY, hxs, hno, hH, lt, li, lm, lself, ld, ll, hW⟩ := hh
                have hXY' := hXY
                rw [List.length_append] at hXY'
                refine kh ?_
                clear kh Gh
                refine seq_to ⟨σ.loc.set "line1" (.str (mkS X)), σ.H⟩ (fun R hR => get_W lt (get_W li ⟨_, rfl, cut_S (by rw [mkS_len, sizeLine_eq]; (first | lia | omega)) (by rw [scut_mk, cut_hi, List.take_left]; exact hR)⟩)) ?_
                refine seq_to ⟨(σ.loc.set "line1" (.str (mkS X))).set "line2" (.str (mkS Y)), σ.H⟩ (fun R hR => get_W lt (get_W li ⟨_, rfl, cut_S (by rw [mkS_len, sizeLine_eq]; (first | lia | omega)) (by rw [scut_mk, cut_lo, List.drop_left]; exact hR)⟩)) ?_
                refine seq_ex (fun σ₂ => σ₂.H = σ.H ∧ σ₂.loc "data_list" = some (.ref a) ∧ σ₂.loc "line_num" = some line ∧ σ₂.loc "self" = some (.obj 113 fs) ∧ σ₂.loc "line1" = some (.str (mkS (X ++ post m))) ∧ σ₂.loc "line2" = some (.str (mkS (pre m ++ Y)))) (fun R hR => ⟨m, X, Y, hmo, by (first | lia | omega), by (first | lia | omega), lm, rfl, rfl, fun σ₂ hs2 k1 k2 => hR _ ⟨hs2.1, hs2.get (by decide) ld, hs2.get (by decide) ll, hs2.get (by decide) lself, k1, k2⟩⟩) (fun σ₂ h => ?_)
                obtain ⟨hH2, ld2, ll2, lself2, k1, k2⟩ := h
                rw [← hH2] at hW hH
                refine seq_to ⟨σ₂.loc, σ₂.H.set a ⟨true, xs ++ [.tup [line, .str (mkS (X ++ post m))]]⟩⟩ (fun R hR => get_W ld2 ⟨a, _, rfl, hH, get_W ll2 (get_W k1 ⟨by rw [sizeLine_eq]; simp, xs, hH, by rw [sizeLine_eq]; (first | lia | omega), hR⟩)⟩) ?_
                refine get_W lself2 ⟨fs, rfl, hno, get_W ld2 ?_⟩
                rw [ofSg]
                exact get_W k2 (hmono _ _ _ _ (fun r H₃ h => ⟨h.1, h.2 _⟩) hW)
    case r1m =>
      intro σ Q hh
      refine hide fun Gh kh => ?_
      obtain ⟨fs, a, xs, line, T, wr, hv, hPT, hL, hxs, hno, hH, lt, ls, lx, lself, ld, ll, hW⟩ := hh
      have h0 : SameBut ["i", "n", "mark"] σ ⟨((σ.loc.set "i" (.int 0)).set "n" (.int 0)).set "mark" (.str (Str.ofString "")), σ.H⟩ := (((SameBut.refl ["i", "n", "mark"] σ).set (x := "i") (by decide)).set (x := "n") (by decide)).set (x := "mark") (by decide)
      refine kh ?_
      clear kh Gh
      refine seq_to _ (fun R hR => hR) (seq_to _ (fun R hR => hR) (seq_to _ (fun R hR => hR) ?_))
      refine seq_ex (fun σ₁ => SameBut ["i", "n", "mark"] σ σ₁ ∧ σ₁.loc "i" = some (.int ((flat (cutA wr T)).length : Nat)) ∧ σ₁.loc "mark" = some (.str (mkS (mkF [] (cutA wr T))))) (fun R hR => ⟨T, wr, hv, hPT, hL, rfl, rfl, by rw [ofSe]; rfl, lx, ls, lt, fun σ₁ hs hi hmk => hR _ ⟨SameBut.trans h0 hs, hi, hmk⟩⟩) (fun σ₁ h => ?_)
      obtain ⟨hs, hi, hmk⟩ := h
      have e : flat T = flat (cutA wr T) ++ flat (cutB wr T) := by rw [← flat_app, cut_app]
      exact ⟨fs, a, xs, line, mkF [] (cutA wr T), flat (cutA wr T), flat (cutB wr T), mkF_len [] _ (by simp), by rw [← e]; exact hL, hxs, hno, by rw [hs.1]; exact hH, by rw [← e]; exact hs.get (by decide) lt, hi, hmk, hs.get (by decide) lself, hs.get (by decide) ld, hs.get (by decide) ll, by rw [hs.1]; exact hW⟩
  case hw =>
    clear S hv G
    intro Q hQ
    refine hide fun Gh kh => ?_
    obtain ⟨fs, a, xs, line, t, m, B, wr, rfl, hwc, hno, hH, htr, hm, hPW, hcl, hvis, hlen, hw1, hw2, hxl, hQ⟩ := hQ
    have hAll := flat_preT m B hm
    have hPA := PW_preT m B hm hPW
    have hpl := pre_len m hm
    have hL : (pre m ++ flat B).length ≤ 6002 := by rw [List.length_append]; (first | lia | omega)
    refine kh ?_
    clear kh Gh
    refine ⟨rfl, ?_⟩
    refine seq_or (fun σ => t = true ∧ σ = ⟨argLoc ["self", "data_list", "line_num", "text"] [.obj 113 fs, .ref a, line, .str (mkS (pre m ++ flat B))], H⟩) (fun R h1 h2 => ⟨a, xs, line, _, t, by (first | lia | omega), htr, hH, rfl, rfl, rfl, fun ht => h2 _ _ (by subst ht; exact hQ), fun ht => h1 _ ⟨ht, rfl⟩⟩) ?_
    · rintro _ ⟨rfl, rfl⟩
      rw [if_pos rfl] at hQ
      refine seq_to _ (fun R hR => get_W (p := .str (mkS (pre m ++ flat B))) rfl (len_S (by rw [mkS_len]; (first | lia | omega)) hR)) (seq_to _ (fun R hR => get_W (p := .obj 113 fs) rfl ⟨fs, _, rfl, hwc, hR⟩) ?_)
      rw [mkS_len]
      refine seq_or (fun σ => wr < vis B ∧ σ = ⟨((argLoc ["self", "data_list", "line_num", "text"] [.obj 113 fs, .ref a, line, .str (mkS (pre m ++ flat B))]).set "size" (.int ((pre m ++ flat B).length : Nat))).set "max" (.int (wr : Int)), H⟩) (fun R h1 h2 => ⟨a, xs, line, preT m ++ B, wr, by (first | lia | omega), hPA, by rw [mkF_preT m B hm]; exact hcl, by rw [hAll]; exact hL, hH, rfl, rfl, by rw [hAll]; rfl, by rw [hAll]; rfl, rfl, fun hvw => h2 _ _ ?_, fun hvw => h1 _ ⟨by rw [vis_preT] at hvw; exact hvw, rfl⟩⟩) ?_
      · rw [vis_preT] at hvw
        rw [hAll]
        cases v with
        | zero => exact hQ
        | succ v => unfold pcs at hQ; rw [if_pos hvw] at hQ; exact hQ
      · rintro _ ⟨hvw, rfl⟩
        rcases hrec with hv0 | ⟨u, hvu, hWu⟩
        · (first | lia | omega)
        subst hvu hWu
        unfold pcs at hQ
        rw [if_neg (by (first | lia | omega))] at hQ
        have hlB : (flat (cutB wr B)).length ≤ (flat B).length := by
          have h1 : (flat (cutA wr B ++ cutB wr B)).length = (flat B).length := by rw [cut_app]
          rw [flat_app, List.length_append] at h1; (first | lia | omega)
        have hPAB : PW m (cutA wr B) ∧ PW (mkF m (cutA wr B)) (cutB wr B) := by rw [← PW_app, cut_app]; exact hPW
        have hclB : mkF (mkF m (cutA wr B)) (cutB wr B) = [] := by rw [← mkF_app, cut_app]; exact hcl
        have hvB := vis_cutB wr B (by (first | lia | omega))
        have hisM := mkF_isMk m _ hPAB.1 hm
        refine ⟨fs, a, xs, line, preT m ++ B, wr, by rw [vis_preT]; (first | lia | omega), hPA, by rw [hAll]; exact hL, by (first | lia | omega), hno, hH, by rw [hAll]; rfl, by rw [hAll]; rfl, rfl, rfl, rfl, rfl, ?_⟩
        rw [cutA_preT m B wr hw1, flat_preT m _ hm, mkF_preT m _ hm, cutB_preT m B wr hw1]
        refine ⟨fs, a, xs ++ [.tup [line, .str (mkS (pre m ++ flat (cutA wr B) ++ post (mkF m (cutA wr B))))]], .str (mkS [62]), true, mkF m (cutA wr B), cutB wr B, wr, rfl, hwc, hno, LH.set_self _ _ _, fun H R h => ⟨by rw [mkS_len]; decide, by rw [mkS_len]; exact h⟩, hisM, hPAB.2, hclB, by (first | lia | omega), by (first | lia | omega), hw1, hw2, by rw [List.length_append]; simp only [List.length_cons, List.length_nil]; (first | lia | omega), rfl, fun _ => ?_⟩
        rw [if_pos rfl, LH.set_set, List.append_assoc, rowsOf_gt]
        exact hQ
theorem split_line (w : World) : ∀ v, ∀ (h₀ : Heap) (prog : Program) (env : Env), Gr (Mine.kcap.heap_1 w.params) h₀ → ∀ loc Z H s ps vs, Sat h₀ Z env loc H s.heap → VRs Z ps vs → MOp h₀ prog w (8 + v + 1) env loc Z H s (call (.ref 67) vs) (SpW 113 v ps H)
  | 0 => split_gen w 8 0 (fun _ _ _ => False) (fun _ _ _ _ _ _ _ _ _ _ _ _ _ _ _ _ _ f _ => f.elim) (fun _ _ _ _ _ f => f) (.inl rfl)
  | v + 1 => split_gen w (8 + v + 1) (v + 1) (SpW 113 v) (split_line w v) (fun _ _ _ _ h f => SpW.mono h f) (.inr ⟨v, rfl, rfl⟩)
/-- x._split_line(..), a statement -/
theorem st_split (w : World) (v : Nat) {h₀ : Heap} {prog : Program} {n : Nat} {env : Env} {o : Expr} {apos p pos : Pos} {e : Expr} {rest : List Expr} {fo : ET} {F : EsT} {pl : Sem Bool} (G : Gr (Mine.kcap.heap_1 w.params) h₀) (hn : 8 + v + 1 ≤ n) (ho : EvOk h₀ prog w n env o fo) (hes : EsOk h₀ prog w n env (e :: rest) F)
    (hm : eval (.Call (.Attribute o (Str.ofString "_split_line") apos) (e :: rest) [] p) env = (do
      let ov ← eval o env
      standAt apos.atName
      let (f, first) ← holding [ov] (getMethod ov (Str.ofString "_split_line") pl)
      callWith p f first (backTo p (starEach (e :: rest) env)) []))
    (hs : starEach (e :: rest) env = (false, eval e env) :: starEach rest env) (hp : (backTo p (starEach rest env)).any (·.1) = false) (hi : interactive env = false) (hw : swapsWith (.Call (.Attribute o (Str.ofString "_split_line") apos) (e :: rest) [] p) none pos.line env = pure false) :
    ExOk h₀ prog w n env (.Expr (.Call (.Attribute o (Str.ofString "_split_line") apos) (e :: rest) [] p) pos)
      (fun σ Q => fo σ fun a H₁ => ∃ fs, a = .obj 113 fs ∧ fs.lookup "_split_line" = none ∧ F ⟨σ.loc, H₁⟩ fun ps H₂ => SpW 113 v (a :: ps) H₂ fun r H₃ => r = .none ∧ Q .next ⟨σ.loc, H₃⟩) := by
  refine' st_meth (C := 113) (f := 67) G ho hes ?m3 ?m4 ?m5 ?m6 (fun loc Z H s ps vs S hv A Q Q' E rm f q => split_line w v h₀ prog env G loc Z H s ps vs S hv A Q Q' E (rm.le hn) f q) hm hs hp hi hw
  case m3 => k_is
  case m4 => k_is
  case m5 => k_is
  case m6 => k_is
end Mine
namespace Mine
theorem wrapper10 (w : World) : ∃ Fg, GFn (Mine.kcap.heap_1 w.params) w 74 ["self", "diffs"] 80 Fg ∧ ∀ (rows : List Rw) (wr : Nat) (fs : List (String × PV)), 1 ≤ wr → wr ≤ 9 → (∀ x ∈ rows, OkRw x) → fs.lookup "_wrapcolumn" = some (.int (wr : Int)) → fs.lookup "_split_line" = none → Fg ⟨argLoc ["self", "diffs"] [.obj 113 fs, .lst (rows.map Rw.P)], fun _ => none⟩ (rows.map (Rw.ys wr)).flatten GEnd := by
  refine' ⟨_, GFn.intro ?ho ?hcd ?hco ?hgen ?hk ?hbind ?hkind ?hnn ?hnd ?hb, ?_⟩
  case ho => k_is
  case hcd => k_is
  case hco => rfl
  case hgen => rfl
  case hk => rfl
  case hbind => exact fun s => bind2 fun a b => rfl
  case hkind => decide +kernel
  case hnn => decide
  case hnd => decide +kernel
  case hb =>
    intro g₀ tot Fo prog G L'
    refine' gxs_cons (gx_for ?hi (as_tuple3 (as_name (.inl rfl)) (as_name (.inl rfl)) (as_name (.inl rfl)) rfl rfl) ?hl ?hf ?hs) gxs_nil
    case hi => repeat' (first | with_reducible exact ev_int _ _ _ | with_reducible exact ev_str _ _ _ | with_reducible exact ev_none _ _ | with_reducible exact ev_bool _ _ _ | (with_reducible refine' ev_name _ _ ?_ ?_) | (with_reducible refine' ev_binop ?_ ?_) | (with_reducible refine' ev_neg ?_) | (with_reducible refine' ev_cmp ?_ ?_ ?_) | (with_reducible refine' ev_ifexp ?_ ?_ ?_) | (with_reducible refine' ev_list ?_) | (with_reducible refine' ev_tuple ?_) | with_reducible exact es_nil | (with_reducible refine' es_cons ?_ ?_ ?_) | (with_reducible refine' ev_cut ?_ ?_ ?_) | (with_reducible refine' ev_idx ?_ ?_ ?_) | with_reducible exact pt_none | (with_reducible refine' pt_some ?_) | (with_reducible refine' bt_cmp ?_ ?_ ?_) | (with_reducible refine' bt_not ?_) | (with_reducible refine' bt_bool ?_) | with_reducible exact at_and_nil | with_reducible exact at_or_nil | (with_reducible refine' at_and_cons ?_ ?_) | (with_reducible refine' at_or_cons ?_ ?_) | with_reducible exact xs_nil | (with_reducible refine' xs_cons ?_ ?_) | (with_reducible refine' st_assign ?_ ?_ ?_) | (with_reducible refine' st_aug ?_ ?_ ?_) | (with_reducible refine' st_if ?_ ?_ ?_) | (with_reducible refine' st_append ?_ ?_ ?_ ?_ ?_ ?_) | (with_reducible refine' st_augidx ?_ ?_ ?_ ?_) | (with_reducible refine' st_ret ?_) | with_reducible exact st_ret0 | with_reducible exact st_cont | with_reducible exact st_pass | (with_reducible refine' st_while ?_ ?_) | (with_reducible refine' st_for ?_ (as_name ?_) ?_ ?_ ?_) | (with_reducible refine' ev_len (by assumption) ?_ ?_ ?_ ?_ ?_ ?_ ?_ ?_) | (with_reducible refine' ev_chr (by assumption) ?_ ?_ ?_ ?_ ?_ ?_ ?_ ?_) | (with_reducible refine' ev_range (by assumption) ?_ ?_ ?_ ?_ ?_ ?_ ?_ ?_) | (with_reducible refine' ev_abs (by assumption) ?_ ?_ ?_ ?_ ?_ ?_ ?_ ?_) | (with_reducible refine' ev_count _ ?_ ?_ ?_ ?_ ?_) | (with_reducible refine' ev_split _ ?_ ?_ ?_ ?_ ?_) | (with_reducible refine' ev_index _ ?_ ?_ ?_ ?_) | (with_reducible refine' ev_attr (C := 113) (by assumption) ?_ ?_ ?_ ?_ ?_ ?_) | (with_reducible refine' st_forT ?_ (as_tuple2 (as_name ?_) (as_name ?_) ?_ ?_) ?_ ?_ ?_) | (rintro _ _ _ ⟨_, _, rfl, _⟩; exact ⟨_, rfl⟩) | with_reducible exact ts_nil | (with_reducible refine' ts_one ?_) | ((with_reducible show nsIn _ _ _ = _); k_is) | ((with_reducible show plainGet _ _ _ = _); k_is) | ((with_reducible show hasDictIn _ _ = _); k_is) | ((with_reducible show findIn _ _ _ = _); k_is) | ((with_reducible show noGet _ _ = _); k_is) | ((with_reducible show Stores _ _); first | exact Or.inl rfl | exact Or.inr ⟨rfl, rfl⟩) | ((with_reducible show (_ == _) = false); decide) | ((with_reducible show behindInMarks _ _ = _); with_unfolding_all rfl) | ((with_reducible show _ ≤ _); decide) | ((with_reducible show _ = _); rfl) | ((with_reducible show ∀ _, _ = _); intro _; rfl) | ((with_reducible show ∀ _ _, _ = _); intro _ _; rfl) | ((with_reducible show ∀ _ _ _, _ = _); intro _ _ _; rfl) | (with_reducible refine' bt_val ?_ ?_))
    case hf => rintro _ _ _ ⟨_, _, _, rfl, _⟩; exact ⟨_, rfl⟩
    case hs => intro _; rfl
    case hl =>
      refine' gxs_cons (gx_if ?tt ?bb gxs_nil) ?rr
      case tt => repeat' (first | with_reducible exact ev_int _ _ _ | with_reducible exact ev_str _ _ _ | with_reducible exact ev_none _ _ | with_reducible exact ev_bool _ _ _ | (with_reducible refine' ev_name _ _ ?_ ?_) | (with_reducible refine' ev_binop ?_ ?_) | (with_reducible refine' ev_neg ?_) | (with_reducible refine' ev_cmp ?_ ?_ ?_) | (with_reducible refine' ev_ifexp ?_ ?_ ?_) | (with_reducible refine' ev_list ?_) | (with_reducible refine' ev_tuple ?_) | with_reducible exact es_nil | (with_reducible refine' es_cons ?_ ?_ ?_) | (with_reducible refine' ev_cut ?_ ?_ ?_) | (with_reducible refine' ev_idx ?_ ?_ ?_) | with_reducible exact pt_none | (with_reducible refine' pt_some ?_) | (with_reducible refine' bt_cmp ?_ ?_ ?_) | (with_reducible refine' bt_not ?_) | (with_reducible refine' bt_bool ?_) | with_reducible exact at_and_nil | with_reducible exact at_or_nil | (with_reducible refine' at_and_cons ?_ ?_) | (with_reducible refine' at_or_cons ?_ ?_) | with_reducible exact xs_nil | (with_reducible refine' xs_cons ?_ ?_) | (with_reducible refine' st_assign ?_ ?_ ?_) | (with_reducible refine' st_aug ?_ ?_ ?_) | (with_reducible refine' st_if ?_ ?_ ?_) | (with_reducible refine' st_append ?_ ?_ ?_ ?_ ?_ ?_) | (with_reducible refine' st_augidx ?_ ?_ ?_ ?_) | (with_reducible refine' st_ret ?_) | with_reducible exact st_ret0 | with_reducible exact st_cont | with_reducible exact st_pass | (with_reducible refine' st_while ?_ ?_) | (with_reducible refine' st_for ?_ (as_name ?_) ?_ ?_ ?_) | (with_reducible refine' ev_len (by assumption) ?_ ?_ ?_ ?_ ?_ ?_ ?_ ?_) | (with_reducible refine' ev_chr (by assumption) ?_ ?_ ?_ ?_ ?_ ?_ ?_ ?_) | (with_reducible refine' ev_range (by assumption) ?_ ?_ ?_ ?_ ?_ ?_ ?_ ?_) | (with_reducible refine' ev_abs (by assumption) ?_ ?_ ?_ ?_ ?_ ?_ ?_ ?_) | (with_reducible refine' ev_count _ ?_ ?_ ?_ ?_ ?_) | (with_reducible refine' ev_split _ ?_ ?_ ?_ ?_ ?_) | (with_reducible refine' ev_index _ ?_ ?_ ?_ ?_) | (with_reducible refine' ev_attr (C := 113) (by assumption) ?_ ?_ ?_ ?_ ?_ ?_) | (with_reducible refine' st_forT ?_ (as_tuple2 (as_name ?_) (as_name ?_) ?_ ?_) ?_ ?_ ?_) | (rintro _ _ _ ⟨_, _, rfl, _⟩; exact ⟨_, rfl⟩) | with_reducible exact ts_nil | (with_reducible refine' ts_one ?_) | ((with_reducible show nsIn _ _ _ = _); k_is) | ((with_reducible show plainGet _ _ _ = _); k_is) | ((with_reducible show hasDictIn _ _ = _); k_is) | ((with_reducible show findIn _ _ _ = _); k_is) | ((with_reducible show noGet _ _ = _); k_is) | ((with_reducible show Stores _ _); first | exact Or.inl rfl | exact Or.inr ⟨rfl, rfl⟩) | ((with_reducible show (_ == _) = false); decide) | ((with_reducible show behindInMarks _ _ = _); with_unfolding_all rfl) | ((with_reducible show _ ≤ _); decide) | ((with_reducible show _ = _); rfl) | ((with_reducible show ∀ _, _ = _); intro _; rfl) | ((with_reducible show ∀ _ _, _ = _); intro _ _; rfl) | ((with_reducible show ∀ _ _ _, _ = _); intro _ _ _; rfl) | (with_reducible refine' bt_val ?_ ?_))
      case bb =>
        refine' gxs_cons (gx_yield ?ee rfl rfl) (gxs_cons (gx_lift st_cont) gxs_nil)
        case ee => repeat' (first | with_reducible exact ev_int _ _ _ | with_reducible exact ev_str _ _ _ | with_reducible exact ev_none _ _ | with_reducible exact ev_bool _ _ _ | (with_reducible refine' ev_name _ _ ?_ ?_) | (with_reducible refine' ev_binop ?_ ?_) | (with_reducible refine' ev_neg ?_) | (with_reducible refine' ev_cmp ?_ ?_ ?_) | (with_reducible refine' ev_ifexp ?_ ?_ ?_) | (with_reducible refine' ev_list ?_) | (with_reducible refine' ev_tuple ?_) | with_reducible exact es_nil | (with_reducible refine' es_cons ?_ ?_ ?_) | (with_reducible refine' ev_cut ?_ ?_ ?_) | (with_reducible refine' ev_idx ?_ ?_ ?_) | with_reducible exact pt_none | (with_reducible refine' pt_some ?_) | (with_reducible refine' bt_cmp ?_ ?_ ?_) | (with_reducible refine' bt_not ?_) | (with_reducible refine' bt_bool ?_) | with_reducible exact at_and_nil | with_reducible exact at_or_nil | (with_reducible refine' at_and_cons ?_ ?_) | (with_reducible refine' at_or_cons ?_ ?_) | with_reducible exact xs_nil | (with_reducible refine' xs_cons ?_ ?_) | (with_reducible refine' st_assign ?_ ?_ ?_) | (with_reducible refine' st_aug ?_ ?_ ?_) | (with_reducible refine' st_if ?_ ?_ ?_) | (with_reducible refine' st_append ?_ ?_ ?_ ?_ ?_ ?_) | (with_reducible refine' st_augidx ?_ ?_ ?_ ?_) | (with_reducible refine' st_ret ?_) | with_reducible exact st_ret0 | with_reducible exact st_cont | with_reducible exact st_pass | (with_reducible refine' st_while ?_ ?_) | (with_reducible refine' st_for ?_ (as_name ?_) ?_ ?_ ?_) | (with_reducible refine' ev_len (by assumption) ?_ ?_ ?_ ?_ ?_ ?_ ?_ ?_) | (with_reducible refine' ev_chr (by assumption) ?_ ?_ ?_ ?_ ?_ ?_ ?_ ?_) | (with_reducible refine' ev_range (by assumption) ?_ ?_ ?_ ?_ ?_ ?_ ?_ ?_) | (with_reducible refine' ev_abs (by assumption) ?_ ?_ ?_ ?_ ?_ ?_ ?_ ?_) | (with_reducible refine' ev_count _ ?_ ?_ ?_ ?_ ?_) | (with_reducible refine' ev_split _ ?_ ?_ ?_ ?_ ?_) | (with_reducible refine' ev_index _ ?_ ?_ ?_ ?_) | (with_reducible refine' ev_attr (C := 113) (by assumption) ?_ ?_ ?_ ?_ ?_ ?_) | (with_reducible refine' st_forT ?_ (as_tuple2 (as_name ?_) (as_name ?_) ?_ ?_) ?_ ?_ ?_) | (rintro _ _ _ ⟨_, _, rfl, _⟩; exact ⟨_, rfl⟩) | with_reducible exact ts_nil | (with_reducible refine' ts_one ?_) | ((with_reducible show nsIn _ _ _ = _); k_is) | ((with_reducible show plainGet _ _ _ = _); k_is) | ((with_reducible show hasDictIn _ _ = _); k_is) | ((with_reducible show findIn _ _ _ = _); k_is) | ((with_reducible show noGet _ _ = _); k_is) | ((with_reducible show Stores _ _); first | exact Or.inl rfl | exact Or.inr ⟨rfl, rfl⟩) | ((with_reducible show (_ == _) = false); decide) | ((with_reducible show behindInMarks _ _ = _); with_unfolding_all rfl) | ((with_reducible show _ ≤ _); decide) | ((with_reducible show _ = _); rfl) | ((with_reducible show ∀ _, _ = _); intro _; rfl) | ((with_reducible show ∀ _ _, _ = _); intro _ _; rfl) | ((with_reducible show ∀ _ _ _, _ = _); intro _ _ _; rfl) | (with_reducible refine' bt_val ?_ ?_))
      case rr =>
        refine' gxs_cons (gx_lift (st_assignT ?e1 (as_tuple2 (as_tuple2 (as_name (.inl rfl)) (as_name (.inl rfl)) rfl rfl) (as_tuple2 (as_name (.inl rfl)) (as_name (.inl rfl)) rfl rfl) rfl rfl) rfl rfl)) ?r1
        case e1 => repeat' (first | with_reducible exact ev_int _ _ _ | with_reducible exact ev_str _ _ _ | with_reducible exact ev_none _ _ | with_reducible exact ev_bool _ _ _ | (with_reducible refine' ev_name _ _ ?_ ?_) | (with_reducible refine' ev_binop ?_ ?_) | (with_reducible refine' ev_neg ?_) | (with_reducible refine' ev_cmp ?_ ?_ ?_) | (with_reducible refine' ev_ifexp ?_ ?_ ?_) | (with_reducible refine' ev_list ?_) | (with_reducible refine' ev_tuple ?_) | with_reducible exact es_nil | (with_reducible refine' es_cons ?_ ?_ ?_) | (with_reducible refine' ev_cut ?_ ?_ ?_) | (with_reducible refine' ev_idx ?_ ?_ ?_) | with_reducible exact pt_none | (with_reducible refine' pt_some ?_) | (with_reducible refine' bt_cmp ?_ ?_ ?_) | (with_reducible refine' bt_not ?_) | (with_reducible refine' bt_bool ?_) | with_reducible exact at_and_nil | with_reducible exact at_or_nil | (with_reducible refine' at_and_cons ?_ ?_) | (with_reducible refine' at_or_cons ?_ ?_) | with_reducible exact xs_nil | (with_reducible refine' xs_cons ?_ ?_) | (with_reducible refine' st_assign ?_ ?_ ?_) | (with_reducible refine' st_aug ?_ ?_ ?_) | (with_reducible refine' st_if ?_ ?_ ?_) | (with_reducible refine' st_append ?_ ?_ ?_ ?_ ?_ ?_) | (with_reducible refine' st_augidx ?_ ?_ ?_ ?_) | (with_reducible refine' st_ret ?_) | with_reducible exact st_ret0 | with_reducible exact st_cont | with_reducible exact st_pass | (with_reducible refine' st_while ?_ ?_) | (with_reducible refine' st_for ?_ (as_name ?_) ?_ ?_ ?_) | (with_reducible refine' ev_len (by assumption) ?_ ?_ ?_ ?_ ?_ ?_ ?_ ?_) | (with_reducible refine' ev_chr (by assumption) ?_ ?_ ?_ ?_ ?_ ?_ ?_ ?_) | (with_reducible refine' ev_range (by assumption) ?_ ?_ ?_ ?_ ?_ ?_ ?_ ?_) | (with_reducible refine' ev_abs (by assumption) ?_ ?_ ?_ ?_ ?_ ?_ ?_ ?_) | (with_reducible refine' ev_count _ ?_ ?_ ?_ ?_ ?_) | (with_reducible refine' ev_split _ ?_ ?_ ?_ ?_ ?_) | (with_reducible refine' ev_index _ ?_ ?_ ?_ ?_) | (with_reducible refine' ev_attr (C := 113) (by assumption) ?_ ?_ ?_ ?_ ?_ ?_) | (with_reducible refine' st_forT ?_ (as_tuple2 (as_name ?_) (as_name ?_) ?_ ?_) ?_ ?_ ?_) | (rintro _ _ _ ⟨_, _, rfl, _⟩; exact ⟨_, rfl⟩) | with_reducible exact ts_nil | (with_reducible refine' ts_one ?_) | ((with_reducible show nsIn _ _ _ = _); k_is) | ((with_reducible show plainGet _ _ _ = _); k_is) | ((with_reducible show hasDictIn _ _ = _); k_is) | ((with_reducible show findIn _ _ _ = _); k_is) | ((with_reducible show noGet _ _ = _); k_is) | ((with_reducible show Stores _ _); first | exact Or.inl rfl | exact Or.inr ⟨rfl, rfl⟩) | ((with_reducible show (_ == _) = false); decide) | ((with_reducible show behindInMarks _ _ = _); with_unfolding_all rfl) | ((with_reducible show _ ≤ _); decide) | ((with_reducible show _ = _); rfl) | ((with_reducible show ∀ _, _ = _); intro _; rfl) | ((with_reducible show ∀ _ _, _ = _); intro _ _; rfl) | ((with_reducible show ∀ _ _ _, _ = _); intro _ _ _; rfl) | (with_reducible refine' bt_val ?_ ?_))
        case r1 =>
          refine' gxs_cons (gx_lift (st_swap2 (x := "fromlist") (y := "tolist") ?e2 rfl rfl (.inl rfl) (.inl rfl))) ?r2
          case e2 => repeat' (first | with_reducible exact ev_int _ _ _ | with_reducible exact ev_str _ _ _ | with_reducible exact ev_none _ _ | with_reducible exact ev_bool _ _ _ | (with_reducible refine' ev_name _ _ ?_ ?_) | (with_reducible refine' ev_binop ?_ ?_) | (with_reducible refine' ev_neg ?_) | (with_reducible refine' ev_cmp ?_ ?_ ?_) | (with_reducible refine' ev_ifexp ?_ ?_ ?_) | (with_reducible refine' ev_list ?_) | (with_reducible refine' ev_tuple ?_) | with_reducible exact es_nil | (with_reducible refine' es_cons ?_ ?_ ?_) | (with_reducible refine' ev_cut ?_ ?_ ?_) | (with_reducible refine' ev_idx ?_ ?_ ?_) | with_reducible exact pt_none | (with_reducible refine' pt_some ?_) | (with_reducible refine' bt_cmp ?_ ?_ ?_) | (with_reducible refine' bt_not ?_) | (with_reducible refine' bt_bool ?_) | with_reducible exact at_and_nil | with_reducible exact at_or_nil | (with_reducible refine' at_and_cons ?_ ?_) | (with_reducible refine' at_or_cons ?_ ?_) | with_reducible exact xs_nil | (with_reducible refine' xs_cons ?_ ?_) | (with_reducible refine' st_assign ?_ ?_ ?_) | (with_reducible refine' st_aug ?_ ?_ ?_) | (with_reducible refine' st_if ?_ ?_ ?_) | (with_reducible refine' st_append ?_ ?_ ?_ ?_ ?_ ?_) | (with_reducible refine' st_augidx ?_ ?_ ?_ ?_) | (with_reducible refine' st_ret ?_) | with_reducible exact st_ret0 | with_reducible exact st_cont | with_reducible exact st_pass | (with_reducible refine' st_while ?_ ?_) | (with_reducible refine' st_for ?_ (as_name ?_) ?_ ?_ ?_) | (with_reducible refine' ev_len (by assumption) ?_ ?_ ?_ ?_ ?_ ?_ ?_ ?_) | (with_reducible refine' ev_chr (by assumption) ?_ ?_ ?_ ?_ ?_ ?_ ?_ ?_) | (with_reducible refine' ev_range (by assumption) ?_ ?_ ?_ ?_ ?_ ?_ ?_ ?_) | (with_reducible refine' ev_abs (by assumption) ?_ ?_ ?_ ?_ ?_ ?_ ?_ ?_) | (with_reducible refine' ev_count _ ?_ ?_ ?_ ?_ ?_) | (with_reducible refine' ev_split _ ?_ ?_ ?_ ?_ ?_) | (with_reducible refine' ev_index _ ?_ ?_ ?_ ?_) | (with_reducible refine' ev_attr (C := 113) (by assumption) ?_ ?_ ?_ ?_ ?_ ?_) | (with_reducible refine' st_forT ?_ (as_tuple2 (as_name ?_) (as_name ?_) ?_ ?_) ?_ ?_ ?_) | (rintro _ _ _ ⟨_, _, rfl, _⟩; exact ⟨_, rfl⟩) | with_reducible exact ts_nil | (with_reducible refine' ts_one ?_) | ((with_reducible show nsIn _ _ _ = _); k_is) | ((with_reducible show plainGet _ _ _ = _); k_is) | ((with_reducible show hasDictIn _ _ = _); k_is) | ((with_reducible show findIn _ _ _ = _); k_is) | ((with_reducible show noGet _ _ = _); k_is) | ((with_reducible show Stores _ _); first | exact Or.inl rfl | exact Or.inr ⟨rfl, rfl⟩) | ((with_reducible show (_ == _) = false); decide) | ((with_reducible show behindInMarks _ _ = _); with_unfolding_all rfl) | ((with_reducible show _ ≤ _); decide) | ((with_reducible show _ = _); rfl) | ((with_reducible show ∀ _, _ = _); intro _; rfl) | ((with_reducible show ∀ _ _, _ = _); intro _ _; rfl) | ((with_reducible show ∀ _ _ _, _ = _); intro _ _ _; rfl) | (with_reducible refine' bt_val ?_ ?_))
          case r2 =>
            refine' gxs_cons (gx_lift ?e3) (gxs_cons (gx_lift ?e4) (gxs_cons (gx_while ?e5 ?e6) gxs_nil))
            case e3 =>
              refine' st_split w 62 G (by decide) ?o1 ?o2 rfl rfl rfl rfl rfl
              case o1 => repeat' (first | with_reducible exact ev_int _ _ _ | with_reducible exact ev_str _ _ _ | with_reducible exact ev_none _ _ | with_reducible exact ev_bool _ _ _ | (with_reducible refine' ev_name _ _ ?_ ?_) | (with_reducible refine' ev_binop ?_ ?_) | (with_reducible refine' ev_neg ?_) | (with_reducible refine' ev_cmp ?_ ?_ ?_) | (with_reducible refine' ev_ifexp ?_ ?_ ?_) | (with_reducible refine' ev_list ?_) | (with_reducible refine' ev_tuple ?_) | with_reducible exact es_nil | (with_reducible refine' es_cons ?_ ?_ ?_) | (with_reducible refine' ev_cut ?_ ?_ ?_) | (with_reducible refine' ev_idx ?_ ?_ ?_) | with_reducible exact pt_none | (with_reducible refine' pt_some ?_) | (with_reducible refine' bt_cmp ?_ ?_ ?_) | (with_reducible refine' bt_not ?_) | (with_reducible refine' bt_bool ?_) | with_reducible exact at_and_nil | with_reducible exact at_or_nil | (with_reducible refine' at_and_cons ?_ ?_) | (with_reducible refine' at_or_cons ?_ ?_) | with_reducible exact xs_nil | (with_reducible refine' xs_cons ?_ ?_) | (with_reducible refine' st_assign ?_ ?_ ?_) | (with_reducible refine' st_aug ?_ ?_ ?_) | (with_reducible refine' st_if ?_ ?_ ?_) | (with_reducible refine' st_append ?_ ?_ ?_ ?_ ?_ ?_) | (with_reducible refine' st_augidx ?_ ?_ ?_ ?_) | (with_reducible refine' st_ret ?_) | with_reducible exact st_ret0 | with_reducible exact st_cont | with_reducible exact st_pass | (with_reducible refine' st_while ?_ ?_) | (with_reducible refine' st_for ?_ (as_name ?_) ?_ ?_ ?_) | (with_reducible refine' ev_len (by assumption) ?_ ?_ ?_ ?_ ?_ ?_ ?_ ?_) | (with_reducible refine' ev_chr (by assumption) ?_ ?_ ?_ ?_ ?_ ?_ ?_ ?_) | (with_reducible refine' ev_range (by assumption) ?_ ?_ ?_ ?_ ?_ ?_ ?_ ?_) | (with_reducible refine' ev_abs (by assumption) ?_ ?_ ?_ ?_ ?_ ?_ ?_ ?_) | (with_reducible refine' ev_count _ ?_ ?_ ?_ ?_ ?_) | (with_reducible refine' ev_split _ ?_ ?_ ?_ ?_ ?_) | (with_reducible refine' ev_index _ ?_ ?_ ?_ ?_) | (with_reducible refine' ev_attr (C := 113) (by assumption) ?_ ?_ ?_ ?_ ?_ ?_) | (with_reducible refine' st_forT ?_ (as_tuple2 (as_name ?_) (as_name ?_) ?_ ?_) ?_ ?_ ?_) | (rintro _ _ _ ⟨_, _, rfl, _⟩; exact ⟨_, rfl⟩) | with_reducible exact ts_nil | (with_reducible refine' ts_one ?_) | ((with_reducible show nsIn _ _ _ = _); k_is) | ((with_reducible show plainGet _ _ _ = _); k_is) | ((with_reducible show hasDictIn _ _ = _); k_is) | ((with_reducible show findIn _ _ _ = _); k_is) | ((with_reducible show noGet _ _ = _); k_is) | ((with_reducible show Stores _ _); first | exact Or.inl rfl | exact Or.inr ⟨rfl, rfl⟩) | ((with_reducible show (_ == _) = false); decide) | ((with_reducible show behindInMarks _ _ = _); with_unfolding_all rfl) | ((with_reducible show _ ≤ _); decide) | ((with_reducible show _ = _); rfl) | ((with_reducible show ∀ _, _ = _); intro _; rfl) | ((with_reducible show ∀ _ _, _ = _); intro _ _; rfl) | ((with_reducible show ∀ _ _ _, _ = _); intro _ _ _; rfl) | (with_reducible refine' bt_val ?_ ?_))
              case o2 => repeat' (first | with_reducible exact ev_int _ _ _ | with_reducible exact ev_str _ _ _ | with_reducible exact ev_none _ _ | with_reducible exact ev_bool _ _ _ | (with_reducible refine' ev_name _ _ ?_ ?_) | (with_reducible refine' ev_binop ?_ ?_) | (with_reducible refine' ev_neg ?_) | (with_reducible refine' ev_cmp ?_ ?_ ?_) | (with_reducible refine' ev_ifexp ?_ ?_ ?_) | (with_reducible refine' ev_list ?_) | (with_reducible refine' ev_tuple ?_) | with_reducible exact es_nil | (with_reducible refine' es_cons ?_ ?_ ?_) | (with_reducible refine' ev_cut ?_ ?_ ?_) | (with_reducible refine' ev_idx ?_ ?_ ?_) | with_reducible exact pt_none | (with_reducible refine' pt_some ?_) | (with_reducible refine' bt_cmp ?_ ?_ ?_) | (with_reducible refine' bt_not ?_) | (with_reducible refine' bt_bool ?_) | with_reducible exact at_and_nil | with_reducible exact at_or_nil | (with_reducible refine' at_and_cons ?_ ?_) | (with_reducible refine' at_or_cons ?_ ?_) | with_reducible exact xs_nil | (with_reducible refine' xs_cons ?_ ?_) | (with_reducible refine' st_assign ?_ ?_ ?_) | (with_reducible refine' st_aug ?_ ?_ ?_) | (with_reducible refine' st_if ?_ ?_ ?_) | (with_reducible refine' st_append ?_ ?_ ?_ ?_ ?_ ?_) | (with_reducible refine' st_augidx ?_ ?_ ?_ ?_) | (with_reducible refine' st_ret ?_) | with_reducible exact st_ret0 | with_reducible exact st_cont | with_reducible exact st_pass | (with_reducible refine' st_while ?_ ?_) | (with_reducible refine' st_for ?_ (as_name ?_) ?_ ?_ ?_) | (with_reducible refine' ev_len (by assumption) ?_ ?_ ?_ ?_ ?_ ?_ ?_ ?_) | (with_reducible refine' ev_chr (by assumption) ?_ ?_ ?_ ?_ ?_ ?_ ?_ ?_) | (with_reducible refine' ev_range (by assumption) ?_ ?_ ?_ ?_ ?_ ?_ ?_ ?_) | (with_reducible refine' ev_abs (by assumption) ?_ ?_ ?_ ?_ ?_ ?_ ?_ ?_) | (with_reducible refine' ev_count _ ?_ ?_ ?_ ?_ ?_) | (with_reducible refine' ev_split _ ?_ ?_ ?_ ?_ ?_) | (with_reducible refine' ev_index _ ?_ ?_ ?_ ?_) | (with_reducible refine' ev_attr (C := 113) (by assumption) ?_ ?_ ?_ ?_ ?_ ?_) | (with_reducible refine' st_forT ?_ (as_tuple2 (as_name ?_) (as_name ?_) ?_ ?_) ?_ ?_ ?_) | (rintro _ _ _ ⟨_, _, rfl, _⟩; exact ⟨_, rfl⟩) | with_reducible exact ts_nil | (with_reducible refine' ts_one ?_) | ((with_reducible show nsIn _ _ _ = _); k_is) | ((with_reducible show plainGet _ _ _ = _); k_is) | ((with_reducible show hasDictIn _ _ = _); k_is) | ((with_reducible show findIn _ _ _ = _); k_is) | ((with_reducible show noGet _ _ = _); k_is) | ((with_reducible show Stores _ _); first | exact Or.inl rfl | exact Or.inr ⟨rfl, rfl⟩) | ((with_reducible show (_ == _) = false); decide) | ((with_reducible show behindInMarks _ _ = _); with_unfolding_all rfl) | ((with_reducible show _ ≤ _); decide) | ((with_reducible show _ = _); rfl) | ((with_reducible show ∀ _, _ = _); intro _; rfl) | ((with_reducible show ∀ _ _, _ = _); intro _ _; rfl) | ((with_reducible show ∀ _ _ _, _ = _); intro _ _ _; rfl) | (with_reducible refine' bt_val ?_ ?_))
            case e4 =>
              refine' st_split w 62 G (by decide) ?o3 ?o4 rfl rfl rfl rfl rfl
              case o3 => repeat' (first | with_reducible exact ev_int _ _ _ | with_reducible exact ev_str _ _ _ | with_reducible exact ev_none _ _ | with_reducible exact ev_bool _ _ _ | (with_reducible refine' ev_name _ _ ?_ ?_) | (with_reducible refine' ev_binop ?_ ?_) | (with_reducible refine' ev_neg ?_) | (with_reducible refine' ev_cmp ?_ ?_ ?_) | (with_reducible refine' ev_ifexp ?_ ?_ ?_) | (with_reducible refine' ev_list ?_) | (with_reducible refine' ev_tuple ?_) | with_reducible exact es_nil | (with_reducible refine' es_cons ?_ ?_ ?_) | (with_reducible refine' ev_cut ?_ ?_ ?_) | (with_reducible refine' ev_idx ?_ ?_ ?_) | with_reducible exact pt_none | (with_reducible refine' pt_some ?_) | (with_reducible refine' bt_cmp ?_ ?_ ?_) | (with_reducible refine' bt_not ?_) | (with_reducible refine' bt_bool ?_) | with_reducible exact at_and_nil | with_reducible exact at_or_nil | (with_reducible refine' at_and_cons ?_ ?_) | (with_reducible refine' at_or_cons ?_ ?_) | with_reducible exact xs_nil | (with_reducible refine' xs_cons ?_ ?_) | (with_reducible refine' st_assign ?_ ?_ ?_) | (with_reducible refine' st_aug ?_ ?_ ?_) | (with_reducible refine' st_if ?_ ?_ ?_) | (with_reducible refine' st_append ?_ ?_ ?_ ?_ ?_ ?_) | (with_reducible refine' st_augidx ?_ ?_ ?_ ?_) | (with_reducible refine' st_ret ?_) | with_reducible exact st_ret0 | with_reducible exact st_cont | with_reducible exact st_pass | (with_reducible refine' st_while ?_ ?_) | (with_reducible refine' st_for ?_ (as_name ?_) ?_ ?_ ?_) | (with_reducible refine' ev_len (by assumption) ?_ ?_ ?_ ?_ ?_ ?_ ?_ ?_) | (with_reducible refine' ev_chr (by assumption) ?_ ?_ ?_ ?_ ?_ ?_ ?_ ?_) | (with_reducible refine' ev_range (by assumption) ?_ ?_ ?_ ?_ ?_ ?_ ?_ ?_) | (with_reducible refine' ev_abs (by assumption) ?_ ?_ ?_ ?_ ?_ ?_ ?_ ?_) | (with_reducible refine' ev_count _ ?_ ?_ ?_ ?_ ?_) | (with_reducible refine' ev_split _ ?_ ?_ ?_ ?_ ?_) | (with_reducible refine' ev_index _ ?_ ?_ ?_ ?_) | (with_reducible refine' ev_attr (C := 113) (by assumption) ?_ ?_ ?_ ?_ ?_ ?_) | (with_reducible refine' st_forT ?_ (as_tuple2 (as_name ?_) (as_name ?_) ?_ ?_) ?_ ?_ ?_) | (rintro _ _ _ ⟨_, _, rfl, _⟩; exact ⟨_, rfl⟩) | with_reducible exact ts_nil | (with_reducible refine' ts_one ?_) | ((with_reducible show nsIn _ _ _ = _); k_is) | ((with_reducible show plainGet _ _ _ = _); k_is) | ((with_reducible show hasDictIn _ _ = _); k_is) | ((with_reducible show findIn _ _ _ = _); k_is) | ((with_reducible show noGet _ _ = _); k_is) | ((with_reducible show Stores _ _); first | exact Or.inl rfl | exact Or.inr ⟨rfl, rfl⟩) | ((with_reducible show (_ == _) = false); decide) | ((with_reducible show behindInMarks _ _ = _); with_unfolding_all rfl) | ((with_reducible show _ ≤ _); decide) | ((with_reducible show _ = _); rfl) | ((with_reducible show ∀ _, _ = _); intro _; rfl) | ((with_reducible show ∀ _ _, _ = _); intro _ _; rfl) | ((with_reducible show ∀ _ _ _, _ = _); intro _ _ _; rfl) | (with_reducible refine' bt_val ?_ ?_))
              case o4 => repeat' (first | with_reducible exact ev_int _ _ _ | with_reducible exact ev_str _ _ _ | with_reducible exact ev_none _ _ | with_reducible exact ev_bool _ _ _ | (with_reducible refine' ev_name _ _ ?_ ?_) | (with_reducible refine' ev_binop ?_ ?_) | (with_reducible refine' ev_neg ?_) | (with_reducible refine' ev_cmp ?_ ?_ ?_) | (with_reducible refine' ev_ifexp ?_ ?_ ?_) | (with_reducible refine' ev_list ?_) | (with_reducible refine' ev_tuple ?_) | with_reducible exact es_nil | (with_reducible refine' es_cons ?_ ?_ ?_) | (with_reducible refine' ev_cut ?_ ?_ ?_) | (with_reducible refine' ev_idx ?_ ?_ ?_) | with_reducible exact pt_none | (with_reducible refine' pt_some ?_) | (with_reducible refine' bt_cmp ?_ ?_ ?_) | (with_reducible refine' bt_not ?_) | (with_reducible refine' bt_bool ?_) | with_reducible exact at_and_nil | with_reducible exact at_or_nil | (with_reducible refine' at_and_cons ?_ ?_) | (with_reducible refine' at_or_cons ?_ ?_) | with_reducible exact xs_nil | (with_reducible refine' xs_cons ?_ ?_) | (with_reducible refine' st_assign ?_ ?_ ?_) | (with_reducible refine' st_aug ?_ ?_ ?_) | (with_reducible refine' st_if ?_ ?_ ?_) | (with_reducible refine' st_append ?_ ?_ ?_ ?_ ?_ ?_) | (with_reducible refine' st_augidx ?_ ?_ ?_ ?_) | (with_reducible refine' st_ret ?_) | with_reducible exact st_ret0 | with_reducible exact st_cont | with_reducible exact st_pass | (with_reducible refine' st_while ?_ ?_) | (with_reducible refine' st_for ?_ (as_name ?_) ?_ ?_ ?_) | (with_reducible refine' ev_len (by assumption) ?_ ?_ ?_ ?_ ?_ ?_ ?_ ?_) | (with_reducible refine' ev_chr (by assumption) ?_ ?_ ?_ ?_ ?_ ?_ ?_ ?_) | (with_reducible refine' ev_range (by assumption) ?_ ?_ ?_ ?_ ?_ ?_ ?_ ?_) | (with_reducible refine' ev_abs (by assumption) ?_ ?_ ?_ ?_ ?_ ?_ ?_ ?_) | (with_reducible refine' ev_count _ ?_ ?_ ?_ ?_ ?_) | (with_reducible refine' ev_split _ ?_ ?_ ?_ ?_ ?_) | (with_reducible refine' ev_index _ ?_ ?_ ?_ ?_) | (with_reducible refine' ev_attr (C := 113) (by assumption) ?_ ?_ ?_ ?_ ?_ ?_) | (with_reducible refine' st_forT ?_ (as_tuple2 (as_name ?_) (as_name ?_) ?_ ?_) ?_ ?_ ?_) | (rintro _ _ _ ⟨_, _, rfl, _⟩; exact ⟨_, rfl⟩) | with_reducible exact ts_nil | (with_reducible refine' ts_one ?_) | ((with_reducible show nsIn _ _ _ = _); k_is) | ((with_reducible show plainGet _ _ _ = _); k_is) | ((with_reducible show hasDictIn _ _ = _); k_is) | ((with_reducible show findIn _ _ _ = _); k_is) | ((with_reducible show noGet _ _ = _); k_is) | ((with_reducible show Stores _ _); first | exact Or.inl rfl | exact Or.inr ⟨rfl, rfl⟩) | ((with_reducible show (_ == _) = false); decide) | ((with_reducible show behindInMarks _ _ = _); with_unfolding_all rfl) | ((with_reducible show _ ≤ _); decide) | ((with_reducible show _ = _); rfl) | ((with_reducible show ∀ _, _ = _); intro _; rfl) | ((with_reducible show ∀ _ _, _ = _); intro _ _; rfl) | ((with_reducible show ∀ _ _ _, _ = _); intro _ _ _; rfl) | (with_reducible refine' bt_val ?_ ?_))
            case e5 => repeat' (first | with_reducible exact ev_int _ _ _ | with_reducible exact ev_str _ _ _ | with_reducible exact ev_none _ _ | with_reducible exact ev_bool _ _ _ | (with_reducible refine' ev_name _ _ ?_ ?_) | (with_reducible refine' ev_binop ?_ ?_) | (with_reducible refine' ev_neg ?_) | (with_reducible refine' ev_cmp ?_ ?_ ?_) | (with_reducible refine' ev_ifexp ?_ ?_ ?_) | (with_reducible refine' ev_list ?_) | (with_reducible refine' ev_tuple ?_) | with_reducible exact es_nil | (with_reducible refine' es_cons ?_ ?_ ?_) | (with_reducible refine' ev_cut ?_ ?_ ?_) | (with_reducible refine' ev_idx ?_ ?_ ?_) | with_reducible exact pt_none | (with_reducible refine' pt_some ?_) | (with_reducible refine' bt_cmp ?_ ?_ ?_) | (with_reducible refine' bt_not ?_) | (with_reducible refine' bt_bool ?_) | with_reducible exact at_and_nil | with_reducible exact at_or_nil | (with_reducible refine' at_and_cons ?_ ?_) | (with_reducible refine' at_or_cons ?_ ?_) | with_reducible exact xs_nil | (with_reducible refine' xs_cons ?_ ?_) | (with_reducible refine' st_assign ?_ ?_ ?_) | (with_reducible refine' st_aug ?_ ?_ ?_) | (with_reducible refine' st_if ?_ ?_ ?_) | (with_reducible refine' st_append ?_ ?_ ?_ ?_ ?_ ?_) | (with_reducible refine' st_augidx ?_ ?_ ?_ ?_) | (with_reducible refine' st_ret ?_) | with_reducible exact st_ret0 | with_reducible exact st_cont | with_reducible exact st_pass | (with_reducible refine' st_while ?_ ?_) | (with_reducible refine' st_for ?_ (as_name ?_) ?_ ?_ ?_) | (with_reducible refine' ev_len (by assumption) ?_ ?_ ?_ ?_ ?_ ?_ ?_ ?_) | (with_reducible refine' ev_chr (by assumption) ?_ ?_ ?_ ?_ ?_ ?_ ?_ ?_) | (with_reducible refine' ev_range (by assumption) ?_ ?_ ?_ ?_ ?_ ?_ ?_ ?_) | (with_reducible refine' ev_abs (by assumption) ?_ ?_ ?_ ?_ ?_ ?_ ?_ ?_) | (with_reducible refine' ev_count _ ?_ ?_ ?_ ?_ ?_) | (with_reducible refine' ev_split _ ?_ ?_ ?_ ?_ ?_) | (with_reducible refine' ev_index _ ?_ ?_ ?_ ?_) | (with_reducible refine' ev_attr (C := 113) (by assumption) ?_ ?_ ?_ ?_ ?_ ?_) | (with_reducible refine' st_forT ?_ (as_tuple2 (as_name ?_) (as_name ?_) ?_ ?_) ?_ ?_ ?_) | (rintro _ _ _ ⟨_, _, rfl, _⟩; exact ⟨_, rfl⟩) | with_reducible exact ts_nil | (with_reducible refine' ts_one ?_) | ((with_reducible show nsIn _ _ _ = _); k_is) | ((with_reducible show plainGet _ _ _ = _); k_is) | ((with_reducible show hasDictIn _ _ = _); k_is) | ((with_reducible show findIn _ _ _ = _); k_is) | ((with_reducible show noGet _ _ = _); k_is) | ((with_reducible show Stores _ _); first | exact Or.inl rfl | exact Or.inr ⟨rfl, rfl⟩) | ((with_reducible show (_ == _) = false); decide) | ((with_reducible show behindInMarks _ _ = _); with_unfolding_all rfl) | ((with_reducible show _ ≤ _); decide) | ((with_reducible show _ = _); rfl) | ((with_reducible show ∀ _, _ = _); intro _; rfl) | ((with_reducible show ∀ _ _, _ = _); intro _ _; rfl) | ((with_reducible show ∀ _ _ _, _ = _); intro _ _ _; rfl) | (with_reducible refine' bt_val ?_ ?_))
            case e6 =>
              refine' gxs_cons (gx_lift ?p1) (gxs_cons (gx_lift ?p2) (gxs_cons (gx_yield ?p3 rfl rfl) gxs_nil))
              case p3 => repeat' (first | with_reducible exact ev_int _ _ _ | with_reducible exact ev_str _ _ _ | with_reducible exact ev_none _ _ | with_reducible exact ev_bool _ _ _ | (with_reducible refine' ev_name _ _ ?_ ?_) | (with_reducible refine' ev_binop ?_ ?_) | (with_reducible refine' ev_neg ?_) | (with_reducible refine' ev_cmp ?_ ?_ ?_) | (with_reducible refine' ev_ifexp ?_ ?_ ?_) | (with_reducible refine' ev_list ?_) | (with_reducible refine' ev_tuple ?_) | with_reducible exact es_nil | (with_reducible refine' es_cons ?_ ?_ ?_) | (with_reducible refine' ev_cut ?_ ?_ ?_) | (with_reducible refine' ev_idx ?_ ?_ ?_) | with_reducible exact pt_none | (with_reducible refine' pt_some ?_) | (with_reducible refine' bt_cmp ?_ ?_ ?_) | (with_reducible refine' bt_not ?_) | (with_reducible refine' bt_bool ?_) | with_reducible exact at_and_nil | with_reducible exact at_or_nil | (with_reducible refine' at_and_cons ?_ ?_) | (with_reducible refine' at_or_cons ?_ ?_) | with_reducible exact xs_nil | (with_reducible refine' xs_cons ?_ ?_) | (with_reducible refine' st_assign ?_ ?_ ?_) | (with_reducible refine' st_aug ?_ ?_ ?_) | (with_reducible refine' st_if ?_ ?_ ?_) | (with_reducible refine' st_append ?_ ?_ ?_ ?_ ?_ ?_) | (with_reducible refine' st_augidx ?_ ?_ ?_ ?_) | (with_reducible refine' st_ret ?_) | with_reducible exact st_ret0 | with_reducible exact st_cont | with_reducible exact st_pass | (with_reducible refine' st_while ?_ ?_) | (with_reducible refine' st_for ?_ (as_name ?_) ?_ ?_ ?_) | (with_reducible refine' ev_len (by assumption) ?_ ?_ ?_ ?_ ?_ ?_ ?_ ?_) | (with_reducible refine' ev_chr (by assumption) ?_ ?_ ?_ ?_ ?_ ?_ ?_ ?_) | (with_reducible refine' ev_range (by assumption) ?_ ?_ ?_ ?_ ?_ ?_ ?_ ?_) | (with_reducible refine' ev_abs (by assumption) ?_ ?_ ?_ ?_ ?_ ?_ ?_ ?_) | (with_reducible refine' ev_count _ ?_ ?_ ?_ ?_ ?_) | (with_reducible refine' ev_split _ ?_ ?_ ?_ ?_ ?_) | (with_reducible refine' ev_index _ ?_ ?_ ?_ ?_) | (with_reducible refine' ev_attr (C := 113) (by assumption) ?_ ?_ ?_ ?_ ?_ ?_) | (with_reducible refine' st_forT ?_ (as_tuple2 (as_name ?_) (as_name ?_) ?_ ?_) ?_ ?_ ?_) | (rintro _ _ _ ⟨_, _, rfl, _⟩; exact ⟨_, rfl⟩) | with_reducible exact ts_nil | (with_reducible refine' ts_one ?_) | ((with_reducible show nsIn _ _ _ = _); k_is) | ((with_reducible show plainGet _ _ _ = _); k_is) | ((with_reducible show hasDictIn _ _ = _); k_is) | ((with_reducible show findIn _ _ _ = _); k_is) | ((with_reducible show noGet _ _ = _); k_is) | ((with_reducible show Stores _ _); first | exact Or.inl rfl | exact Or.inr ⟨rfl, rfl⟩) | ((with_reducible show (_ == _) = false); decide) | ((with_reducible show behindInMarks _ _ = _); with_unfolding_all rfl) | ((with_reducible show _ ≤ _); decide) | ((with_reducible show _ = _); rfl) | ((with_reducible show ∀ _, _ = _); intro _; rfl) | ((with_reducible show ∀ _ _, _ = _); intro _ _; rfl) | ((with_reducible show ∀ _ _ _, _ = _); intro _ _ _; rfl) | (with_reducible refine' bt_val ?_ ?_))
              case p1 =>
                refine' st_if ?q1 (xs_cons (st_pop0 ?q2 ?q3 (.inl rfl) rfl rfl rfl) xs_nil) ?q4
                case q1 => repeat' (first | with_reducible exact ev_int _ _ _ | with_reducible exact ev_str _ _ _ | with_reducible exact ev_none _ _ | with_reducible exact ev_bool _ _ _ | (with_reducible refine' ev_name _ _ ?_ ?_) | (with_reducible refine' ev_binop ?_ ?_) | (with_reducible refine' ev_neg ?_) | (with_reducible refine' ev_cmp ?_ ?_ ?_) | (with_reducible refine' ev_ifexp ?_ ?_ ?_) | (with_reducible refine' ev_list ?_) | (with_reducible refine' ev_tuple ?_) | with_reducible exact es_nil | (with_reducible refine' es_cons ?_ ?_ ?_) | (with_reducible refine' ev_cut ?_ ?_ ?_) | (with_reducible refine' ev_idx ?_ ?_ ?_) | with_reducible exact pt_none | (with_reducible refine' pt_some ?_) | (with_reducible refine' bt_cmp ?_ ?_ ?_) | (with_reducible refine' bt_not ?_) | (with_reducible refine' bt_bool ?_) | with_reducible exact at_and_nil | with_reducible exact at_or_nil | (with_reducible refine' at_and_cons ?_ ?_) | (with_reducible refine' at_or_cons ?_ ?_) | with_reducible exact xs_nil | (with_reducible refine' xs_cons ?_ ?_) | (with_reducible refine' st_assign ?_ ?_ ?_) | (with_reducible refine' st_aug ?_ ?_ ?_) | (with_reducible refine' st_if ?_ ?_ ?_) | (with_reducible refine' st_append ?_ ?_ ?_ ?_ ?_ ?_) | (with_reducible refine' st_augidx ?_ ?_ ?_ ?_) | (with_reducible refine' st_ret ?_) | with_reducible exact st_ret0 | with_reducible exact st_cont | with_reducible exact st_pass | (with_reducible refine' st_while ?_ ?_) | (with_reducible refine' st_for ?_ (as_name ?_) ?_ ?_ ?_) | (with_reducible refine' ev_len (by assumption) ?_ ?_ ?_ ?_ ?_ ?_ ?_ ?_) | (with_reducible refine' ev_chr (by assumption) ?_ ?_ ?_ ?_ ?_ ?_ ?_ ?_) | (with_reducible refine' ev_range (by assumption) ?_ ?_ ?_ ?_ ?_ ?_ ?_ ?_) | (with_reducible refine' ev_abs (by assumption) ?_ ?_ ?_ ?_ ?_ ?_ ?_ ?_) | (with_reducible refine' ev_count _ ?_ ?_ ?_ ?_ ?_) | (with_reducible refine' ev_split _ ?_ ?_ ?_ ?_ ?_) | (with_reducible refine' ev_index _ ?_ ?_ ?_ ?_) | (with_reducible refine' ev_attr (C := 113) (by assumption) ?_ ?_ ?_ ?_ ?_ ?_) | (with_reducible refine' st_forT ?_ (as_tuple2 (as_name ?_) (as_name ?_) ?_ ?_) ?_ ?_ ?_) | (rintro _ _ _ ⟨_, _, rfl, _⟩; exact ⟨_, rfl⟩) | with_reducible exact ts_nil | (with_reducible refine' ts_one ?_) | ((with_reducible show nsIn _ _ _ = _); k_is) | ((with_reducible show plainGet _ _ _ = _); k_is) | ((with_reducible show hasDictIn _ _ = _); k_is) | ((with_reducible show findIn _ _ _ = _); k_is) | ((with_reducible show noGet _ _ = _); k_is) | ((with_reducible show Stores _ _); first | exact Or.inl rfl | exact Or.inr ⟨rfl, rfl⟩) | ((with_reducible show (_ == _) = false); decide) | ((with_reducible show behindInMarks _ _ = _); with_unfolding_all rfl) | ((with_reducible show _ ≤ _); decide) | ((with_reducible show _ = _); rfl) | ((with_reducible show ∀ _, _ = _); intro _; rfl) | ((with_reducible show ∀ _ _, _ = _); intro _ _; rfl) | ((with_reducible show ∀ _ _ _, _ = _); intro _ _ _; rfl) | (with_reducible refine' bt_val ?_ ?_))
                case q2 => repeat' (first | with_reducible exact ev_int _ _ _ | with_reducible exact ev_str _ _ _ | with_reducible exact ev_none _ _ | with_reducible exact ev_bool _ _ _ | (with_reducible refine' ev_name _ _ ?_ ?_) | (with_reducible refine' ev_binop ?_ ?_) | (with_reducible refine' ev_neg ?_) | (with_reducible refine' ev_cmp ?_ ?_ ?_) | (with_reducible refine' ev_ifexp ?_ ?_ ?_) | (with_reducible refine' ev_list ?_) | (with_reducible refine' ev_tuple ?_) | with_reducible exact es_nil | (with_reducible refine' es_cons ?_ ?_ ?_) | (with_reducible refine' ev_cut ?_ ?_ ?_) | (with_reducible refine' ev_idx ?_ ?_ ?_) | with_reducible exact pt_none | (with_reducible refine' pt_some ?_) | (with_reducible refine' bt_cmp ?_ ?_ ?_) | (with_reducible refine' bt_not ?_) | (with_reducible refine' bt_bool ?_) | with_reducible exact at_and_nil | with_reducible exact at_or_nil | (with_reducible refine' at_and_cons ?_ ?_) | (with_reducible refine' at_or_cons ?_ ?_) | with_reducible exact xs_nil | (with_reducible refine' xs_cons ?_ ?_) | (with_reducible refine' st_assign ?_ ?_ ?_) | (with_reducible refine' st_aug ?_ ?_ ?_) | (with_reducible refine' st_if ?_ ?_ ?_) | (with_reducible refine' st_append ?_ ?_ ?_ ?_ ?_ ?_) | (with_reducible refine' st_augidx ?_ ?_ ?_ ?_) | (with_reducible refine' st_ret ?_) | with_reducible exact st_ret0 | with_reducible exact st_cont | with_reducible exact st_pass | (with_reducible refine' st_while ?_ ?_) | (with_reducible refine' st_for ?_ (as_name ?_) ?_ ?_ ?_) | (with_reducible refine' ev_len (by assumption) ?_ ?_ ?_ ?_ ?_ ?_ ?_ ?_) | (with_reducible refine' ev_chr (by assumption) ?_ ?_ ?_ ?_ ?_ ?_ ?_ ?_) | (with_reducible refine' ev_range (by assumption) ?_ ?_ ?_ ?_ ?_ ?_ ?_ ?_) | (with_reducible refine' ev_abs (by assumption) ?_ ?_ ?_ ?_ ?_ ?_ ?_ ?_) | (with_reducible refine' ev_count _ ?_ ?_ ?_ ?_ ?_) | (with_reducible refine' ev_split _ ?_ ?_ ?_ ?_ ?_) | (with_reducible refine' ev_index _ ?_ ?_ ?_ ?_) | (with_reducible refine' ev_attr (C := 113) (by assumption) ?_ ?_ ?_ ?_ ?_ ?_) | (with_reducible refine' st_forT ?_ (as_tuple2 (as_name ?_) (as_name ?_) ?_ ?_) ?_ ?_ ?_) | (rintro _ _ _ ⟨_, _, rfl, _⟩; exact ⟨_, rfl⟩) | with_reducible exact ts_nil | (with_reducible refine' ts_one ?_) | ((with_reducible show nsIn _ _ _ = _); k_is) | ((with_reducible show plainGet _ _ _ = _); k_is) | ((with_reducible show hasDictIn _ _ = _); k_is) | ((with_reducible show findIn _ _ _ = _); k_is) | ((with_reducible show noGet _ _ = _); k_is) | ((with_reducible show Stores _ _); first | exact Or.inl rfl | exact Or.inr ⟨rfl, rfl⟩) | ((with_reducible show (_ == _) = false); decide) | ((with_reducible show behindInMarks _ _ = _); with_unfolding_all rfl) | ((with_reducible show _ ≤ _); decide) | ((with_reducible show _ = _); rfl) | ((with_reducible show ∀ _, _ = _); intro _; rfl) | ((with_reducible show ∀ _ _, _ = _); intro _ _; rfl) | ((with_reducible show ∀ _ _ _, _ = _); intro _ _ _; rfl) | (with_reducible refine' bt_val ?_ ?_))
                case q3 => repeat' (first | with_reducible exact ev_int _ _ _ | with_reducible exact ev_str _ _ _ | with_reducible exact ev_none _ _ | with_reducible exact ev_bool _ _ _ | (with_reducible refine' ev_name _ _ ?_ ?_) | (with_reducible refine' ev_binop ?_ ?_) | (with_reducible refine' ev_neg ?_) | (with_reducible refine' ev_cmp ?_ ?_ ?_) | (with_reducible refine' ev_ifexp ?_ ?_ ?_) | (with_reducible refine' ev_list ?_) | (with_reducible refine' ev_tuple ?_) | with_reducible exact es_nil | (with_reducible refine' es_cons ?_ ?_ ?_) | (with_reducible refine' ev_cut ?_ ?_ ?_) | (with_reducible refine' ev_idx ?_ ?_ ?_) | with_reducible exact pt_none | (with_reducible refine' pt_some ?_) | (with_reducible refine' bt_cmp ?_ ?_ ?_) | (with_reducible refine' bt_not ?_) | (with_reducible refine' bt_bool ?_) | with_reducible exact at_and_nil | with_reducible exact at_or_nil | (with_reducible refine' at_and_cons ?_ ?_) | (with_reducible refine' at_or_cons ?_ ?_) | with_reducible exact xs_nil | (with_reducible refine' xs_cons ?_ ?_) | (with_reducible refine' st_assign ?_ ?_ ?_) | (with_reducible refine' st_aug ?_ ?_ ?_) | (with_reducible refine' st_if ?_ ?_ ?_) | (with_reducible refine' st_append ?_ ?_ ?_ ?_ ?_ ?_) | (with_reducible refine' st_augidx ?_ ?_ ?_ ?_) | (with_reducible refine' st_ret ?_) | with_reducible exact st_ret0 | with_reducible exact st_cont | with_reducible exact st_pass | (with_reducible refine' st_while ?_ ?_) | (with_reducible refine' st_for ?_ (as_name ?_) ?_ ?_ ?_) | (with_reducible refine' ev_len (by assumption) ?_ ?_ ?_ ?_ ?_ ?_ ?_ ?_) | (with_reducible refine' ev_chr (by assumption) ?_ ?_ ?_ ?_ ?_ ?_ ?_ ?_) | (with_reducible refine' ev_range (by assumption) ?_ ?_ ?_ ?_ ?_ ?_ ?_ ?_) | (with_reducible refine' ev_abs (by assumption) ?_ ?_ ?_ ?_ ?_ ?_ ?_ ?_) | (with_reducible refine' ev_count _ ?_ ?_ ?_ ?_ ?_) | (with_reducible refine' ev_split _ ?_ ?_ ?_ ?_ ?_) | (with_reducible refine' ev_index _ ?_ ?_ ?_ ?_) | (with_reducible refine' ev_attr (C := 113) (by assumption) ?_ ?_ ?_ ?_ ?_ ?_) | (with_reducible refine' st_forT ?_ (as_tuple2 (as_name ?_) (as_name ?_) ?_ ?_) ?_ ?_ ?_) | (rintro _ _ _ ⟨_, _, rfl, _⟩; exact ⟨_, rfl⟩) | with_reducible exact ts_nil | (with_reducible refine' ts_one ?_) | ((with_reducible show nsIn _ _ _ = _); k_is) | ((with_reducible show plainGet _ _ _ = _); k_is) | ((with_reducible show hasDictIn _ _ = _); k_is) | ((with_reducible show findIn _ _ _ = _); k_is) | ((with_reducible show noGet _ _ = _); k_is) | ((with_reducible show Stores _ _); first | exact Or.inl rfl | exact Or.inr ⟨rfl, rfl⟩) | ((with_reducible show (_ == _) = false); decide) | ((with_reducible show behindInMarks _ _ = _); with_unfolding_all rfl) | ((with_reducible show _ ≤ _); decide) | ((with_reducible show _ = _); rfl) | ((with_reducible show ∀ _, _ = _); intro _; rfl) | ((with_reducible show ∀ _ _, _ = _); intro _ _; rfl) | ((with_reducible show ∀ _ _ _, _ = _); intro _ _ _; rfl) | (with_reducible refine' bt_val ?_ ?_))
                case q4 => repeat' (first | with_reducible exact ev_int _ _ _ | with_reducible exact ev_str _ _ _ | with_reducible exact ev_none _ _ | with_reducible exact ev_bool _ _ _ | (with_reducible refine' ev_name _ _ ?_ ?_) | (with_reducible refine' ev_binop ?_ ?_) | (with_reducible refine' ev_neg ?_) | (with_reducible refine' ev_cmp ?_ ?_ ?_) | (with_reducible refine' ev_ifexp ?_ ?_ ?_) | (with_reducible refine' ev_list ?_) | (with_reducible refine' ev_tuple ?_) | with_reducible exact es_nil | (with_reducible refine' es_cons ?_ ?_ ?_) | (with_reducible refine' ev_cut ?_ ?_ ?_) | (with_reducible refine' ev_idx ?_ ?_ ?_) | with_reducible exact pt_none | (with_reducible refine' pt_some ?_) | (with_reducible refine' bt_cmp ?_ ?_ ?_) | (with_reducible refine' bt_not ?_) | (with_reducible refine' bt_bool ?_) | with_reducible exact at_and_nil | with_reducible exact at_or_nil | (with_reducible refine' at_and_cons ?_ ?_) | (with_reducible refine' at_or_cons ?_ ?_) | with_reducible exact xs_nil | (with_reducible refine' xs_cons ?_ ?_) | (with_reducible refine' st_assign ?_ ?_ ?_) | (with_reducible refine' st_aug ?_ ?_ ?_) | (with_reducible refine' st_if ?_ ?_ ?_) | (with_reducible refine' st_append ?_ ?_ ?_ ?_ ?_ ?_) | (with_reducible refine' st_augidx ?_ ?_ ?_ ?_) | (with_reducible refine' st_ret ?_) | with_reducible exact st_ret0 | with_reducible exact st_cont | with_reducible exact st_pass | (with_reducible refine' st_while ?_ ?_) | (with_reducible refine' st_for ?_ (as_name ?_) ?_ ?_ ?_) | (with_reducible refine' ev_len (by assumption) ?_ ?_ ?_ ?_ ?_ ?_ ?_ ?_) | (with_reducible refine' ev_chr (by assumption) ?_ ?_ ?_ ?_ ?_ ?_ ?_ ?_) | (with_reducible refine' ev_range (by assumption) ?_ ?_ ?_ ?_ ?_ ?_ ?_ ?_) | (with_reducible refine' ev_abs (by assumption) ?_ ?_ ?_ ?_ ?_ ?_ ?_ ?_) | (with_reducible refine' ev_count _ ?_ ?_ ?_ ?_ ?_) | (with_reducible refine' ev_split _ ?_ ?_ ?_ ?_ ?_) | (with_reducible refine' ev_index _ ?_ ?_ ?_ ?_) | (with_reducible refine' ev_attr (C := 113) (by assumption) ?_ ?_ ?_ ?_ ?_ ?_) | (with_reducible refine' st_forT ?_ (as_tuple2 (as_name ?_) (as_name ?_) ?_ ?_) ?_ ?_ ?_) | (rintro _ _ _ ⟨_, _, rfl, _⟩; exact ⟨_, rfl⟩) | with_reducible exact ts_nil | (with_reducible refine' ts_one ?_) | ((with_reducible show nsIn _ _ _ = _); k_is) | ((with_reducible show plainGet _ _ _ = _); k_is) | ((with_reducible show hasDictIn _ _ = _); k_is) | ((with_reducible show findIn _ _ _ = _); k_is) | ((with_reducible show noGet _ _ = _); k_is) | ((with_reducible show Stores _ _); first | exact Or.inl rfl | exact Or.inr ⟨rfl, rfl⟩) | ((with_reducible show (_ == _) = false); decide) | ((with_reducible show behindInMarks _ _ = _); with_unfolding_all rfl) | ((with_reducible show _ ≤ _); decide) | ((with_reducible show _ = _); rfl) | ((with_reducible show ∀ _, _ = _); intro _; rfl) | ((with_reducible show ∀ _ _, _ = _); intro _ _; rfl) | ((with_reducible show ∀ _ _ _, _ = _); intro _ _ _; rfl) | (with_reducible refine' bt_val ?_ ?_))
              case p2 =>
                refine' st_if ?q5 (xs_cons (st_pop0 ?q6 ?q7 (.inl rfl) rfl rfl rfl) xs_nil) ?q8
                case q5 => repeat' (first | with_reducible exact ev_int _ _ _ | with_reducible exact ev_str _ _ _ | with_reducible exact ev_none _ _ | with_reducible exact ev_bool _ _ _ | (with_reducible refine' ev_name _ _ ?_ ?_) | (with_reducible refine' ev_binop ?_ ?_) | (with_reducible refine' ev_neg ?_) | (with_reducible refine' ev_cmp ?_ ?_ ?_) | (with_reducible refine' ev_ifexp ?_ ?_ ?_) | (with_reducible refine' ev_list ?_) | (with_reducible refine' ev_tuple ?_) | with_reducible exact es_nil | (with_reducible refine' es_cons ?_ ?_ ?_) | (with_reducible refine' ev_cut ?_ ?_ ?_) | (with_reducible refine' ev_idx ?_ ?_ ?_) | with_reducible exact pt_none | (with_reducible refine' pt_some ?_) | (with_reducible refine' bt_cmp ?_ ?_ ?_) | (with_reducible refine' bt_not ?_) | (with_reducible refine' bt_bool ?_) | with_reducible exact at_and_nil | with_reducible exact at_or_nil | (with_reducible refine' at_and_cons ?_ ?_) | (with_reducible refine' at_or_cons ?_ ?_) | with_reducible exact xs_nil | (with_reducible refine' xs_cons ?_ ?_) | (with_reducible refine' st_assign ?_ ?_ ?_) | (with_reducible refine' st_aug ?_ ?_ ?_) | (with_reducible refine' st_if ?_ ?_ ?_) | (with_reducible refine' st_append ?_ ?_ ?_ ?_ ?_ ?_) | (with_reducible refine' st_augidx ?_ ?_ ?_ ?_) | (with_reducible refine' st_ret ?_) | with_reducible exact st_ret0 | with_reducible exact st_cont | with_reducible exact st_pass | (with_reducible refine' st_while ?_ ?_) | (with_reducible refine' st_for ?_ (as_name ?_) ?_ ?_ ?_) | (with_reducible refine' ev_len (by assumption) ?_ ?_ ?_ ?_ ?_ ?_ ?_ ?_) | (with_reducible refine' ev_chr (by assumption) ?_ ?_ ?_ ?_ ?_ ?_ ?_ ?_) | (with_reducible refine' ev_range (by assumption) ?_ ?_ ?_ ?_ ?_ ?_ ?_ ?_) | (with_reducible refine' ev_abs (by assumption) ?_ ?_ ?_ ?_ ?_ ?_ ?_ ?_) | (with_reducible refine' ev_count _ ?_ ?_ ?_ ?_ ?_) | (with_reducible refine' ev_split _ ?_ ?_ ?_ ?_ ?_) | (with_reducible refine' ev_index _ ?_ ?_ ?_ ?_) | (with_reducible refine' ev_attr (C := 113) (by assumption) ?_ ?_ ?_ ?_ ?_ ?_) | (with_reducible refine' st_forT ?_ (as_tuple2 (as_name ?_) (as_name ?_) ?_ ?_) ?_ ?_ ?_) | (rintro _ _ _ ⟨_, _, rfl, _⟩; exact ⟨_, rfl⟩) | with_reducible exact ts_nil | (with_reducible refine' ts_one ?_) | ((with_reducible show nsIn _ _ _ = _); k_is) | ((with_reducible show plainGet _ _ _ = _); k_is) | ((with_reducible show hasDictIn _ _ = _); k_is) | ((with_reducible show findIn _ _ _ = _); k_is) | ((with_reducible show noGet _ _ = _); k_is) | ((with_reducible show Stores _ _); first | exact Or.inl rfl | exact Or.inr ⟨rfl, rfl⟩) | ((with_reducible show (_ == _) = false); decide) | ((with_reducible show behindInMarks _ _ = _); with_unfolding_all rfl) | ((with_reducible show _ ≤ _); decide) | ((with_reducible show _ = _); rfl) | ((with_reducible show ∀ _, _ = _); intro _; rfl) | ((with_reducible show ∀ _ _, _ = _); intro _ _; rfl) | ((with_reducible show ∀ _ _ _, _ = _); intro _ _ _; rfl) | (with_reducible refine' bt_val ?_ ?_))
                case q6 => repeat' (first | with_reducible exact ev_int _ _ _ | with_reducible exact ev_str _ _ _ | with_reducible exact ev_none _ _ | with_reducible exact ev_bool _ _ _ | (with_reducible refine' ev_name _ _ ?_ ?_) | (with_reducible refine' ev_binop ?_ ?_) | (with_reducible refine' ev_neg ?_) | (with_reducible refine' ev_cmp ?_ ?_ ?_) | (with_reducible refine' ev_ifexp ?_ ?_ ?_) | (with_reducible refine' ev_list ?_) | (with_reducible refine' ev_tuple ?_) | with_reducible exact es_nil | (with_reducible refine' es_cons ?_ ?_ ?_) | (with_reducible refine' ev_cut ?_ ?_ ?_) | (with_reducible refine' ev_idx ?_ ?_ ?_) | with_reducible exact pt_none | (with_reducible refine' pt_some ?_) | (with_reducible refine' bt_cmp ?_ ?_ ?_) | (with_reducible refine' bt_not ?_) | (with_reducible refine' bt_bool ?_) | with_reducible exact at_and_nil | with_reducible exact at_or_nil | (with_reducible refine' at_and_cons ?_ ?_) | (with_reducible refine' at_or_cons ?_ ?_) | with_reducible exact xs_nil | (with_reducible refine' xs_cons ?_ ?_) | (with_reducible refine' st_assign ?_ ?_ ?_) | (with_reducible refine' st_aug ?_ ?_ ?_) | (with_reducible refine' st_if ?_ ?_ ?_) | (with_reducible refine' st_append ?_ ?_ ?_ ?_ ?_ ?_) | (with_reducible refine' st_augidx ?_ ?_ ?_ ?_) | (with_reducible refine' st_ret ?_) | with_reducible exact st_ret0 | with_reducible exact st_cont | with_reducible exact st_pass | (with_reducible refine' st_while ?_ ?_) | (with_reducible refine' st_for ?_ (as_name ?_) ?_ ?_ ?_) | (with_reducible refine' ev_len (by assumption) ?_ ?_ ?_ ?_ ?_ ?_ ?_ ?_) | (with_reducible refine' ev_chr (by assumption) ?_ ?_ ?_ ?_ ?_ ?_ ?_ ?_) | (with_reducible refine' ev_range (by assumption) ?_ ?_ ?_ ?_ ?_ ?_ ?_ ?_) | (with_reducible refine' ev_abs (by assumption) ?_ ?_ ?_ ?_ ?_ ?_ ?_ ?_) | (with_reducible refine' ev_count _ ?_ ?_ ?_ ?_ ?_) | (with_reducible refine' ev_split _ ?_ ?_ ?_ ?_ ?_) | (with_reducible refine' ev_index _ ?_ ?_ ?_ ?_) | (with_reducible refine' ev_attr (C := 113) (by assumption) ?_ ?_ ?_ ?_ ?_ ?_) | (with_reducible refine' st_forT ?_ (as_tuple2 (as_name ?_) (as_name ?_) ?_ ?_) ?_ ?_ ?_) | (rintro _ _ _ ⟨_, _, rfl, _⟩; exact ⟨_, rfl⟩) | with_reducible exact ts_nil | (with_reducible refine' ts_one ?_) | ((with_reducible show nsIn _ _ _ = _); k_is) | ((with_reducible show plainGet _ _ _ = _); k_is) | ((with_reducible show hasDictIn _ _ = _); k_is) | ((with_reducible show findIn _ _ _ = _); k_is) | ((with_reducible show noGet _ _ = _); k_is) | ((with_reducible show Stores _ _); first | exact Or.inl rfl | exact Or.inr ⟨rfl, rfl⟩) | ((with_reducible show (_ == _) = false); decide) | ((with_reducible show behindInMarks _ _ = _); with_unfolding_all rfl) | ((with_reducible show _ ≤ _); decide) | ((with_reducible show _ = _); rfl) | ((with_reducible show ∀ _, _ = _); intro _; rfl) | ((with_reducible show ∀ _ _, _ = _); intro _ _; rfl) | ((with_reducible show ∀ _ _ _, _ = _); intro _ _ _; rfl) | (with_reducible refine' bt_val ?_ ?_))
                case q7 => repeat' (first | with_reducible exact ev_int _ _ _ | with_reducible exact ev_str _ _ _ | with_reducible exact ev_none _ _ | with_reducible exact ev_bool _ _ _ | (with_reducible refine' ev_name _ _ ?_ ?_) | (with_reducible refine' ev_binop ?_ ?_) | (with_reducible refine' ev_neg ?_) | (with_reducible refine' ev_cmp ?_ ?_ ?_) | (with_reducible refine' ev_ifexp ?_ ?_ ?_) | (with_reducible refine' ev_list ?_) | (with_reducible refine' ev_tuple ?_) | with_reducible exact es_nil | (with_reducible refine' es_cons ?_ ?_ ?_) | (with_reducible refine' ev_cut ?_ ?_ ?_) | (with_reducible refine' ev_idx ?_ ?_ ?_) | with_reducible exact pt_none | (with_reducible refine' pt_some ?_) | (with_reducible refine' bt_cmp ?_ ?_ ?_) | (with_reducible refine' bt_not ?_) | (with_reducible refine' bt_bool ?_) | with_reducible exact at_and_nil | with_reducible exact at_or_nil | (with_reducible refine' at_and_cons ?_ ?_) | (with_reducible refine' at_or_cons ?_ ?_) | with_reducible exact xs_nil | (with_reducible refine' xs_cons ?_ ?_) | (with_reducible refine' st_assign ?_ ?_ ?_) | (with_reducible refine' st_aug ?_ ?_ ?_) | (with_reducible refine' st_if ?_ ?_ ?_) | (with_reducible refine' st_append ?_ ?_ ?_ ?_ ?_ ?_) | (with_reducible refine' st_augidx ?_ ?_ ?_ ?_) | (with_reducible refine' st_ret ?_) | with_reducible exact st_ret0 | with_reducible exact st_cont | with_reducible exact st_pass | (with_reducible refine' st_while ?_ ?_) | (with_reducible refine' st_for ?_ (as_name ?_) ?_ ?_ ?_) | (with_reducible refine' ev_len (by assumption) ?_ ?_ ?_ ?_ ?_ ?_ ?_ ?_) | (with_reducible refine' ev_chr (by assumption) ?_ ?_ ?_ ?_ ?_ ?_ ?_ ?_) | (with_reducible refine' ev_range (by assumption) ?_ ?_ ?_ ?_ ?_ ?_ ?_ ?_) | (with_reducible refine' ev_abs (by assumption) ?_ ?_ ?_ ?_ ?_ ?_ ?_ ?_) | (with_reducible refine' ev_count _ ?_ ?_ ?_ ?_ ?_) | (with_reducible refine' ev_split _ ?_ ?_ ?_ ?_ ?_) | (with_reducible refine' ev_index _ ?_ ?_ ?_ ?_) | (with_reducible refine' ev_attr (C := 113) (by assumption) ?_ ?_ ?_ ?_ ?_ ?_) | (with_reducible refine' st_forT ?_ (as_tuple2 (as_name ?_) (as_name ?_) ?_ ?_) ?_ ?_ ?_) | (rintro _ _ _ ⟨_, _, rfl, _⟩; exact ⟨_, rfl⟩) | with_reducible exact ts_nil | (with_reducible refine' ts_one ?_) | ((with_reducible show nsIn _ _ _ = _); k_is) | ((with_reducible show plainGet _ _ _ = _); k_is) | ((with_reducible show hasDictIn _ _ = _); k_is) | ((with_reducible show findIn _ _ _ = _); k_is) | ((with_reducible show noGet _ _ = _); k_is) | ((with_reducible show Stores _ _); first | exact Or.inl rfl | exact Or.inr ⟨rfl, rfl⟩) | ((with_reducible show (_ == _) = false); decide) | ((with_reducible show behindInMarks _ _ = _); with_unfolding_all rfl) | ((with_reducible show _ ≤ _); decide) | ((with_reducible show _ = _); rfl) | ((with_reducible show ∀ _, _ = _); intro _; rfl) | ((with_reducible show ∀ _ _, _ = _); intro _ _; rfl) | ((with_reducible show ∀ _ _ _, _ = _); intro _ _ _; rfl) | (with_reducible refine' bt_val ?_ ?_))
                case q8 => repeat' (first | with_reducible exact ev_int _ _ _ | with_reducible exact ev_str _ _ _ | with_reducible exact ev_none _ _ | with_reducible exact ev_bool _ _ _ | (with_reducible refine' ev_name _ _ ?_ ?_) | (with_reducible refine' ev_binop ?_ ?_) | (with_reducible refine' ev_neg ?_) | (with_reducible refine' ev_cmp ?_ ?_ ?_) | (with_reducible refine' ev_ifexp ?_ ?_ ?_) | (with_reducible refine' ev_list ?_) | (with_reducible refine' ev_tuple ?_) | with_reducible exact es_nil | (with_reducible refine' es_cons ?_ ?_ ?_) | (with_reducible refine' ev_cut ?_ ?_ ?_) | (with_reducible refine' ev_idx ?_ ?_ ?_) | with_reducible exact pt_none | (with_reducible refine' pt_some ?_) | (with_reducible refine' bt_cmp ?_ ?_ ?_) | (with_reducible refine' bt_not ?_) | (with_reducible refine' bt_bool ?_) | with_reducible exact at_and_nil | with_reducible exact at_or_nil | (with_reducible refine' at_and_cons ?_ ?_) | (with_reducible refine' at_or_cons ?_ ?_) | with_reducible exact xs_nil | (with_reducible refine' xs_cons ?_ ?_) | (with_reducible refine' st_assign ?_ ?_ ?_) | (with_reducible refine' st_aug ?_ ?_ ?_) | (with_reducible refine' st_if ?_ ?_ ?_) | (with_reducible refine' st_append ?_ ?_ ?_ ?_ ?_ ?_) | (with_reducible refine' st_augidx ?_ ?_ ?_ ?_) | (with_reducible refine' st_ret ?_) | with_reducible exact st_ret0 | with_reducible exact st_cont | with_reducible exact st_pass | (with_reducible refine' st_while ?_ ?_) | (with_reducible refine' st_for ?_ (as_name ?_) ?_ ?_ ?_) | (with_reducible refine' ev_len (by assumption) ?_ ?_ ?_ ?_ ?_ ?_ ?_ ?_) | (with_reducible refine' ev_chr (by assumption) ?_ ?_ ?_ ?_ ?_ ?_ ?_ ?_) | (with_reducible refine' ev_range (by assumption) ?_ ?_ ?_ ?_ ?_ ?_ ?_ ?_) | (with_reducible refine' ev_abs (by assumption) ?_ ?_ ?_ ?_ ?_ ?_ ?_ ?_) | (with_reducible refine' ev_count _ ?_ ?_ ?_ ?_ ?_) | (with_reducible refine' ev_split _ ?_ ?_ ?_ ?_ ?_) | (with_reducible refine' ev_index _ ?_ ?_ ?_ ?_) | (with_reducible refine' ev_attr (C := 113) (by assumption) ?_ ?_ ?_ ?_ ?_ ?_) | (with_reducible refine' st_forT ?_ (as_tuple2 (as_name ?_) (as_name ?_) ?_ ?_) ?_ ?_ ?_) | (rintro _ _ _ ⟨_, _, rfl, _⟩; exact ⟨_, rfl⟩) | with_reducible exact ts_nil | (with_reducible refine' ts_one ?_) | ((with_reducible show nsIn _ _ _ = _); k_is) | ((with_reducible show plainGet _ _ _ = _); k_is) | ((with_reducible show hasDictIn _ _ = _); k_is) | ((with_reducible show findIn _ _ _ = _); k_is) | ((with_reducible show noGet _ _ = _); k_is) | ((with_reducible show Stores _ _); first | exact Or.inl rfl | exact Or.inr ⟨rfl, rfl⟩) | ((with_reducible show (_ == _) = false); decide) | ((with_reducible show behindInMarks _ _ = _); with_unfolding_all rfl) | ((with_reducible show _ ≤ _); decide) | ((with_reducible show _ = _); rfl) | ((with_reducible show ∀ _, _ = _); intro _; rfl) | ((with_reducible show ∀ _ _, _ = _); intro _ _; rfl) | ((with_reducible show ∀ _ _ _, _ = _); intro _ _ _; rfl) | (with_reducible refine' bt_val ?_ ?_))
  intro rows wr fs hw h9 hok hf1 hf2
  refine seqG_ex (fun _ ys => ys = []) (fun R hR => ?_) (fun σ ys h => ⟨h, .inl rfl⟩)
  refine get_W (show _ = some (PV.lst (rows.map Rw.P)) from rfl) ⟨_, rfl, ?_⟩
  refine forG_inv (fun rest σ ys => ∃ todo : List Rw, rest = todo.map Rw.P ∧ ys = (todo.map (Rw.ys wr)).flatten ∧ (∀ r ∈ todo, OkRw r) ∧ σ.loc "self" = some (.obj 113 fs)) ?step ?fin _ _ _ ?init
  case init => exact ⟨rows, rfl, rfl, hok, rfl⟩
  case fin =>
    rintro σ ys ⟨todo, e1, e2, _, _⟩
    cases todo with
    | nil => exact hR _ _ e2
    | cons _ _ => cases e1
  case step =>
    rintro p r σ ys K ⟨todo, e1, e2, h3, l1⟩ kn kc
    cases todo with
    | nil => cases e1
    | cons x todo =>
    cases e1
    subst e2
    have hx := h3 x List.mem_cons_self
    have h3' : ∀ r ∈ todo, OkRw r := fun r hr => h3 r (List.mem_cons_of_mem _ hr)
    replace kn : ∀ σ', σ'.loc "self" = some (.obj 113 fs) → K .next σ' (todo.map (Rw.ys wr)).flatten := fun σ' h => kn _ _ ⟨todo, rfl, rfl, h3', h⟩
    replace kc : ∀ σ', σ'.loc "self" = some (.obj 113 fs) → K .cont σ' (todo.map (Rw.ys wr)).flatten := fun σ' h => kc _ _ ⟨todo, rfl, rfl, h3', h⟩
    rw [List.map_cons, List.flatten_cons]
    generalize (todo.map (Rw.ys wr)).flatten = zs at kn kc ⊢
    clear h3 h3' hok hR
    cases x with
    | sep =>
      refine ⟨_, _, _, rfl, ?_⟩
      refine get_W (show _ = some PV.none from rfl) (cmp_isN (PySem.W.ite_pos rfl ?_))
      exact ⟨_, zs, rfl, .tup (.cons .none (.cons .none (.cons .none .nil))), get_W rfl (get_W rfl (get_W rfl ⟨by rw [sizeLine_eq]; simp, rfl, kc _ l1⟩))⟩
    | row i j r1 r2 fl =>
      obtain ⟨hi, hj, ho1, ho2, hl1, hl2⟩ := hx
      refine ⟨_, _, _, rfl, ?_⟩
      refine seqG_to _ _ (fun R hR => get_W (show _ = some (PV.bool fl) from rfl) (cmp_isB (PySem.W.ite_neg (by decide) hR))) ?_
      obtain ⟨ln1, t1, B1, e1, a1, b1, c1, d1, f1, g1⟩ := side_spec wr i r1 hi ho1 hl1
      obtain ⟨ln2, t2, B2, e2, a2, b2, c2, d2, f2, g2⟩ := side_spec wr j r2 hj ho2 hl2
      have n1 := sideRows_len wr i r1 hw ho1
      have n2 := sideRows_len wr j r2 hw ho2
      have o1 := sideRows_to wr i r1
      have o2 := sideRows_to wr j r2
      show seqG _ _ _ (zp fl (max (sideRows wr i r1).length (sideRows wr j r2).length) (sideRows wr i r1) (sideRows wr j r2) ++ zs) K
      generalize sideRows wr i r1 = L1 at g1 n1 o1 ⊢
      generalize sideRows wr j r2 = L2 at g2 n2 o2 ⊢
      rw [e1, e2]
      clear e1 e2
      refine seqG_ex (fun σ' ys => ys = zp fl (max L1.length L2.length) L1 L2 ++ zs ∧ σ'.loc "self" = some (.obj 113 fs) ∧ σ'.loc "flag" = some (.bool fl) ∧ σ'.loc "fromline" = some ln1 ∧ σ'.loc "fromtext" = some (.str (mkS (pre [] ++ flat B1))) ∧ σ'.loc "toline" = some ln2 ∧ σ'.loc "totext" = some (.str (mkS (pre [] ++ flat B2)))) (fun R hR => ?_) ?_
      · exact get_W rfl (get_W rfl ⟨by rw [sizeLine_eq]; simp, _, _, rfl, ⟨_, _, rfl, _, _, rfl, hR _ _ ⟨rfl, l1, rfl, rfl, rfl, rfl, rfl⟩⟩⟩)
      rintro σ1 ys ⟨rfl, m1, m2, m3, m4, m5, m6⟩
      refine seqG_ex (fun σ' ys => ∃ a b, a ≠ b ∧ ys = zp fl (max L1.length L2.length) L1 L2 ++ zs ∧ σ'.loc "self" = some (.obj 113 fs) ∧ σ'.loc "flag" = some (.bool fl) ∧ σ'.loc "fromline" = some ln1 ∧ σ'.loc "fromtext" = some (.str (mkS (pre [] ++ flat B1))) ∧ σ'.loc "toline" = some ln2 ∧ σ'.loc "totext" = some (.str (mkS (pre [] ++ flat B2))) ∧ σ'.loc "fromlist" = some (.ref a) ∧ σ'.loc "tolist" = some (.ref b) ∧ σ'.H a = some ⟨true, []⟩ ∧ σ'.H b = some ⟨true, []⟩) (fun R hR => ?_) ?_
      · refine ⟨by decide, listW_ref fun a ha => ⟨by decide, listW_ref fun b hb => ⟨by rw [sizeLine_eq]; simp, _, _, rfl, ?_⟩⟩⟩
        have hab : a ≠ b := fun h => by
          have hb' : (σ1.H.set a ⟨true, []⟩) b = none := hb
          rw [h, LH.set_self] at hb'; cases hb'
        exact hR _ _ ⟨a, b, hab, rfl, m1, m2, m3, m4, m5, m6, rfl, rfl, (LH.set_ne _ _ hab).trans (LH.set_self _ _ _), LH.set_self _ _ _⟩
      clear m1 m2 m3 m4 m5 m6 kc
      rintro σ2 ys ⟨a, b, hab, rfl, m1, m2, m3, m4, m5, m6, m7, m8, m9, m10⟩
      refine seqG_to ⟨σ2.loc, σ2.H.set a ⟨true, L1⟩⟩ (zp fl (max L1.length L2.length) L1 L2 ++ zs) (fun R hR => get_W m1 ⟨fs, rfl, hf2, get_W m7 (get_W m3 (get_W m4 ?_))⟩) ?_
      · refine .mk fs a [] ln1 t1 [] B1 wr rfl hf1 hf2 m9 a1 (.inl rfl) b1 c1 d1 f1 hw (by (first | lia | omega)) (by simp; (first | lia | omega)) ⟨rfl, ?_⟩
        rw [List.nil_append, g1]; exact hR
      refine seqG_to ⟨σ2.loc, (σ2.H.set a ⟨true, L1⟩).set b ⟨true, L2⟩⟩ (zp fl (max L1.length L2.length) L1 L2 ++ zs) (fun R hR => get_W m1 ⟨fs, rfl, hf2, get_W m8 (get_W m5 (get_W m6 ?_))⟩) ?_
      · refine .mk fs b [] ln2 t2 [] B2 wr rfl hf1 hf2 ((LH.set_ne _ _ (Ne.symm hab)).trans m10) a2 (.inl rfl) b2 c2 d2 f2 hw (by (first | lia | omega)) (by simp; (first | lia | omega)) ⟨rfl, ?_⟩
        rw [List.nil_append, g2]; exact hR
      refine seqG_ex (fun σ' ys => ys = zs ∧ σ'.loc "self" = some (.obj 113 fs)) (fun R hR => ?_) (fun σ' ys h => by rw [h.1]; exact kn σ' h.2)
      refine whileG_inv (fun k σ' ys => ∃ L M, k = max L.length M.length ∧ ys = zp fl k L M ++ zs ∧ σ'.loc "self" = some (.obj 113 fs) ∧ σ'.loc "flag" = some (.bool fl) ∧ σ'.loc "fromlist" = some (.ref a) ∧ σ'.loc "tolist" = some (.ref b) ∧ σ'.H a = some ⟨true, L⟩ ∧ σ'.H b = some ⟨true, M⟩ ∧ L.length ≤ 100 ∧ M.length ≤ 100 ∧ (∀ p ∈ L, TO p) ∧ (∀ p ∈ M, TO p)) ?stp (max L1.length L2.length) _ _ ?ini
      case ini => exact ⟨L1, L2, rfl, rfl, m1, m2, m7, m8, (LH.set_ne _ _ hab).trans (LH.set_self _ _ _), LH.set_self _ _ _, by (first | lia | omega), by (first | lia | omega), o1, o2⟩
      case stp =>
        clear kn
        rintro k σ3 ys K3 ⟨L, M, rfl, rfl, q1, q2, q3, q4, q5, q6, q7, q8, q9, q10⟩ kn
        have kn2 : L ≠ [] ∨ M ≠ [] → ∀ σ', σ'.loc "self" = some (.obj 113 fs) → σ'.loc "flag" = some (.bool fl) → σ'.loc "fromlist" = some (.ref a) → σ'.loc "tolist" = some (.ref b) → σ'.H a = some ⟨true, L.tail⟩ → σ'.H b = some ⟨true, M.tail⟩ → K3 .next σ' (zp fl (max L.tail.length M.tail.length) L.tail M.tail ++ zs) := fun h σ' h2 h3 h4 h5 h6 h7 =>
          kn _ σ' _ (zp_step fl h).2 ⟨L.tail, M.tail, rfl, rfl, h2, h3, h4, h5, h6, h7, by rw [List.length_tail]; (first | lia | omega), by rw [List.length_tail]; (first | lia | omega), tail_to q9, tail_to q10⟩
        clear kn
        refine get_W q3 (truth_R q5 q7 ?_)
        by_cases hn : L = [] ∧ M = []
        · obtain ⟨rfl, rfl⟩ := hn
          exact PySem.W.ite_neg (by decide) (get_W q4 (truth_R q6 q8 (PySem.W.ite_neg (by decide) (hR _ _ ⟨rfl, q1⟩))))
        · have hn' : L ≠ [] ∨ M ≠ [] := by
            rcases Classical.em (L = []) with h | h
            · exact .inr fun h' => hn ⟨h, h'⟩
            · exact .inl h
          replace kn2 := kn2 hn'
          refine or_pos (PySem.W.ite_pos rfl ?_) fun hc ha => get_W q4 (truth_R q6 q8 ?_)
          · rw [(zp_step fl hn').1]
            refine seqG_ex (fun σ' ys => ys = .tup [L.headD padP, M.headD padP, .bool fl] :: zp fl (max L.tail.length M.tail.length) L.tail M.tail ++ zs ∧ σ'.loc "self" = some (.obj 113 fs) ∧ σ'.loc "flag" = some (.bool fl) ∧ σ'.loc "fromlist" = some (.ref a) ∧ σ'.loc "tolist" = some (.ref b) ∧ σ'.H a = some ⟨true, L.tail⟩ ∧ σ'.H b = some ⟨true, M⟩ ∧ σ'.loc "fromdata" = some (L.headD padP)) (fun R1 hR1 => ?_) ?_
            · refine get_W q3 (truth_R q5 q7 ?_)
              cases L with
              | nil => exact PySem.W.ite_neg (by decide) ⟨by decide, hR1 _ _ ⟨rfl, q1, q2, q3, q4, q5, q6, by rw [ofSe]; rfl⟩⟩
              | cons x L => exact PySem.W.ite_pos rfl (get_W q3 ⟨a, _, rfl, q5, rfl, x, L, q5, by simp at q7; (first | lia | omega), hR1 _ _ ⟨rfl, q1, q2, q3, q4, LH.set_self _ _ _, (LH.set_ne _ _ (Ne.symm hab)).trans q6, rfl⟩⟩)
            rintro σ4 ys ⟨rfl, w1, w2, w3, w4, w5, w6, w7⟩
            refine seqG_ex (fun σ' ys => ys = .tup [L.headD padP, M.headD padP, .bool fl] :: zp fl (max L.tail.length M.tail.length) L.tail M.tail ++ zs ∧ σ'.loc "self" = some (.obj 113 fs) ∧ σ'.loc "flag" = some (.bool fl) ∧ σ'.loc "fromlist" = some (.ref a) ∧ σ'.loc "tolist" = some (.ref b) ∧ σ'.H a = some ⟨true, L.tail⟩ ∧ σ'.H b = some ⟨true, M.tail⟩ ∧ σ'.loc "fromdata" = some (L.headD padP) ∧ σ'.loc "todata" = some (M.headD padP)) (fun R1 hR1 => ?_) ?_
            · refine get_W w4 (truth_R w6 q8 ?_)
              cases M with
              | nil => exact PySem.W.ite_neg (by decide) ⟨by decide, hR1 _ _ ⟨rfl, w1, w2, w3, w4, w5, w6, w7, by rw [ofSe]; rfl⟩⟩
              | cons x M => exact PySem.W.ite_pos rfl (get_W w4 ⟨b, _, rfl, w6, rfl, x, M, w6, by simp at q8; (first | lia | omega), hR1 _ _ ⟨rfl, w1, w2, w3, w4, (LH.set_ne _ _ hab).trans w5, LH.set_self _ _ _, w7, rfl⟩⟩)
            rintro σ5 ys ⟨rfl, v1, v2, v3, v4, v5, v6, v7, v8⟩
            exact ⟨_, _, rfl, .tup (.cons (headD_to q9) (.cons (headD_to q10) (.cons (.bool _) .nil))), get_W v7 (get_W v8 (get_W v2 ⟨by rw [sizeLine_eq]; simp, rfl, kn2 σ5 v1 v2 v3 v4 v5 v6⟩))⟩
          · cases M with
            | nil =>
              cases L with
              | nil => exact absurd ⟨rfl, rfl⟩ hn
              | cons _ _ => cases hc
            | cons y M => exact ha
end Mine
namespace Mine
/-- the loop that builds the rows and what is due -/
inductive Lp10 (σ : St) (Q : Fl → St → Prop) : Prop
  | mk (ws : List Int) (wr : Nat) (a b d e : Addr) (h1 : ws.length ≤ 63) (hw : 1 ≤ wr) (h9 : wr ≤ 9) (hn : [a, b, d, e].Nodup)
      (n1 : σ.loc "script" = some (.lst (ws.map .int))) (n2 : σ.loc "wrap" = some (.int (wr : Int))) (n3 : σ.loc "diffs" = some (.ref a)) (n4 : σ.loc "due" = some (.ref b)) (n5 : σ.loc "sides" = some (.lst [.ref d, .ref e]))
      (hA : σ.H a = some ⟨true, []⟩) (hB : σ.H b = some ⟨true, []⟩) (hD : σ.H d = some ⟨true, []⟩) (hE : σ.H e = some ⟨true, []⟩)
      (hQ : ∀ (σ' : St) (rows : List Rw), (∀ x ∈ rows, OkRw x) → (∀ x ∈ rows, ChRw x) → rows.length ≤ 64 → σ'.loc "wrap" = some (.int (wr : Int)) → σ'.loc "diffs" = some (.ref a) → σ'.loc "due" = some (.ref b) →
        σ'.H a = some ⟨true, rows.map Rw.P⟩ → σ'.H b = some ⟨true, (rows.map (Rw.due wr)).flatten⟩ → Q .next σ') : Lp10 σ Q
/-- behind the first seven statements -/
inductive Post10 : Fl → St → Prop
  | mk (σ : St) (rows : List Rw) (wr : Nat) (a b c : Addr) (ok : ∀ x ∈ rows, OkRw x) (ch : ∀ x ∈ rows, ChRw x) (hl : rows.length ≤ 64) (hw : 1 ≤ wr) (h9 : wr ≤ 9) (hbc : b ≠ c)
      (n1 : σ.loc "wrap" = some (.int (wr : Int))) (n2 : σ.loc "diffs" = some (.ref a)) (n3 : σ.loc "due" = some (.ref b)) (n4 : σ.loc "told" = some (.ref c))
      (hA : σ.H a = some ⟨true, rows.map Rw.P⟩) (hB : σ.H b = some ⟨true, (rows.map (Rw.due wr)).flatten⟩) (hC : σ.H c = some ⟨true, []⟩) : Post10 .next σ
/-- between two turns -/
inductive Li10 (wr : Nat) (a b : Addr) (rest : List PV) (σ : St) : Prop
  | mk (todo : List Int) (rows : List Rw) (r1 r2 : Cells) (d e : Addr) (h0 : rest = todo.map .int) (hn : [a, b, d, e].Nodup) (o1 : okCs r1) (o2 : okCs r2) (c1 : ∀ x ∈ r1, x.1 < 128 ∧ ∀ c ∈ x.2, c < 128) (c2 : ∀ x ∈ r2, x.1 < 128 ∧ ∀ c ∈ x.2, c < 128)
      (l1 : r1.length + todo.length ≤ 63) (l2 : r2.length + todo.length ≤ 63) (l3 : rows.length + todo.length ≤ 64) (ok : ∀ x ∈ rows, OkRw x) (ch : ∀ x ∈ rows, ChRw x)
      (n2 : σ.loc "wrap" = some (.int (wr : Int))) (n3 : σ.loc "diffs" = some (.ref a)) (n4 : σ.loc "due" = some (.ref b)) (n5 : σ.loc "sides" = some (.lst [.ref d, .ref e]))
      (hA : σ.H a = some ⟨true, rows.map Rw.P⟩) (hB : σ.H b = some ⟨true, (rows.map (Rw.due wr)).flatten⟩) (hD : σ.H d = some ⟨true, r1.map cellP⟩) (hE : σ.H e = some ⟨true, r2.map cellP⟩) : Li10 wr a b rest σ
theorem law10 : Mine.ownRow.Holds := hd10 (by
  k_fill
  intro w s₀ s₁ mg mb G Y fa o pm cd doc dV kV ho hd hcd hD hmg hg args vals as hpre hlay hrd hwl hlo
  have KX := kIn_of Y
  rw [Mine.kfrag_eq] at KX
  have X := (Ground.X G).1
  have V := (Ground.X G).2
  refine Ground.open G ?_
  intro T B D TE TW
  try (refine guard_noD D (by decide +kernel) ?_; clear D)
  obtain ⟨_, _, M⟩ := bmod_of_top T
  have TA := at_of_top T
  try (obtain ⟨_, _, he, B0⟩ := based_of_top T rfl hmg ho hd; have he' : cd = _ := he; subst he'; clear he)
  clear hmg
  wrow_args hpre hlay hrd hwl hlo
  all_goals (
    first | refine callC_kw (enter_call ?_) | refine enter_call ?_ | refine callC_kw (enter_callW ?_) | refine enter_callW ?_ | w_how
    w_top on
    have K0 := below_caller (Top.heap T)
    w_call any ho hd hcd hD T F
    clear hd TA
    k_drop
    skip)
  rename Well _ _ _ _ => W1
  cases W1 with
  | list eA wA =>
  have hI' := ints_of_well wA
  clear wA
  rename News _ _ _ _ => N'
  rename ¬ _ < _ => hcond
  have G' : Gr (Mine.kcap.heap_1 w.params) _ := ⟨KX, ⟨_, T.g⟩, ⟨_, T.b, T.builtins⟩, T.nolimit⟩
  obtain ⟨Fw, hFw, hwr⟩ := written10 w
  obtain ⟨Fr, hFr, hrd⟩ := read10 w
  obtain ⟨Fc, hFc, hce⟩ := cells10 w
  obtain ⟨Fg, hFg, hgn⟩ := wrapper10 w
  refine' xs_app (n := 90) (pre := [_, _, _, _, _, _, _]) (rest := [_, _]) (Q := Post10) ?hX ?rm ?S0 ?pre ?post
  case S0 =>
    refine' start_ok F ?k1 ?k2 ?k3 ?k4 ?k5 ?k6 hI'
    case k1 => rfl
    case k2 =>
      intro n c hm
      repeat' (first
        | (exact absurd hm List.not_mem_nil)
        | (rcases List.mem_cons.mp hm with e | hm; (cases e; first
          | exact ⟨N'.fresh (.head _), _, _, N'.get (.head _), by assumption⟩
          | exact ⟨N'.fresh (.tail _ (.head _)), _, _, N'.get (.tail _ (.head _)), by assumption⟩
          | exact ⟨N'.fresh (.tail _ (.tail _ (.head _))), _, _, N'.get (.tail _ (.tail _ (.head _))), by assumption⟩
          | exact ⟨N'.fresh (.tail _ (.tail _ (.tail _ (.head _)))), _, _, N'.get (.tail _ (.tail _ (.tail _ (.head _)))), by assumption⟩)))
    case k3 =>
      show List.Nodup [_, _, _, _]
      simp
      (first | lia | omega)
    case k4 => rfl
    case k5 => rfl
    case k6 => exact eA
  case rm => exact ⟨rfl, (by decide : callerA.depth + 1 + 90 < recursionLimit), (by decide : callerA.units + 3 + 80 + 8 * 90 < cLine)⟩
  case hX =>
    with_reducible refine' xs_cons ?a0 ?b0
    case a0 => repeat' (first | with_reducible exact ev_int _ _ _ | with_reducible exact ev_str _ _ _ | with_reducible exact ev_none _ _ | with_reducible exact ev_bool _ _ _ | (with_reducible refine' ev_name _ _ ?_ ?_) | (with_reducible refine' ev_binop ?_ ?_) | (with_reducible refine' ev_neg ?_) | (with_reducible refine' ev_cmp ?_ ?_ ?_) | (with_reducible refine' ev_ifexp ?_ ?_ ?_) | (with_reducible refine' ev_list ?_) | (with_reducible refine' ev_tuple ?_) | with_reducible exact es_nil | (with_reducible refine' es_cons ?_ ?_ ?_) | (with_reducible refine' ev_cut ?_ ?_ ?_) | (with_reducible refine' ev_idx ?_ ?_ ?_) | with_reducible exact pt_none | (with_reducible refine' pt_some ?_) | (with_reducible refine' bt_cmp ?_ ?_ ?_) | (with_reducible refine' bt_not ?_) | (with_reducible refine' bt_bool ?_) | with_reducible exact at_and_nil | with_reducible exact at_or_nil | (with_reducible refine' at_and_cons ?_ ?_) | (with_reducible refine' at_or_cons ?_ ?_) | with_reducible exact xs_nil | (with_reducible refine' xs_cons ?_ ?_) | (with_reducible refine' st_assign ?_ ?_ ?_) | (with_reducible refine' st_aug ?_ ?_ ?_) | (with_reducible refine' st_if ?_ ?_ ?_) | (with_reducible refine' st_append ?_ ?_ ?_ ?_ ?_ ?_) | (with_reducible refine' st_augidx ?_ ?_ ?_ ?_) | (with_reducible refine' st_ret ?_) | with_reducible exact st_ret0 | with_reducible exact st_cont | with_reducible exact st_pass | (with_reducible refine' st_while ?_ ?_) | (with_reducible refine' st_for ?_ (as_name ?_) ?_ ?_ ?_) | (with_reducible refine' ev_len (by assumption) ?_ ?_ ?_ ?_ ?_ ?_ ?_ ?_) | (with_reducible refine' ev_chr (by assumption) ?_ ?_ ?_ ?_ ?_ ?_ ?_ ?_) | (with_reducible refine' ev_range (by assumption) ?_ ?_ ?_ ?_ ?_ ?_ ?_ ?_) | (with_reducible refine' ev_abs (by assumption) ?_ ?_ ?_ ?_ ?_ ?_ ?_ ?_) | (with_reducible refine' ev_count _ ?_ ?_ ?_ ?_ ?_) | (with_reducible refine' ev_split _ ?_ ?_ ?_ ?_ ?_) | (with_reducible refine' ev_index _ ?_ ?_ ?_ ?_) | (with_reducible refine' ev_attr (C := 113) (by assumption) ?_ ?_ ?_ ?_ ?_ ?_) | (with_reducible refine' st_forT ?_ (as_tuple3 (as_name ?_) (as_name ?_) (as_name ?_) ?_ ?_) ?_ ?_ ?_) | (rintro _ _ _ ⟨_, _, _, rfl, _⟩; exact ⟨_, rfl⟩) | (with_reducible refine' ev_max (by assumption) ?_ ?_ ?_ ?_ ?_ ?_ ?_ ?_) | (with_reducible refine' ev_sum (by assumption) ?_ ?_ ?_ ?_ ?_ ?_ ?_ ?_) | (with_reducible refine' ev_fn (x := Str.ofString "_law_written") (f := 124) (by assumption) (by assumption) ?_ ?_ ?_ ?_ ?_ ?_ ?_ ?_ ?_) | (with_reducible refine' ev_fn (x := Str.ofString "_law_read") (f := 131) (by assumption) (by assumption) ?_ ?_ ?_ ?_ ?_ ?_ ?_ ?_ ?_) | (with_reducible refine' ev_fn (x := Str.ofString "_law_cells") (f := 136) (by assumption) (by assumption) ?_ ?_ ?_ ?_ ?_ ?_ ?_ ?_ ?_) | with_reducible exact ts_nil | (with_reducible refine' ts_one ?_) | ((with_reducible show nsIn _ _ _ = _); k_is) | ((with_reducible show plainGet _ _ _ = _); k_is) | ((with_reducible show hasDictIn _ _ = _); k_is) | ((with_reducible show findIn _ _ _ = _); k_is) | ((with_reducible show noGet _ _ = _); k_is) | ((with_reducible show Stores _ _); first | exact Or.inl rfl | exact Or.inr ⟨rfl, rfl⟩) | ((with_reducible show (_ == _) = false); decide) | ((with_reducible show behindInMarks _ _ = _); with_unfolding_all rfl) | ((with_reducible show _ ≤ _); decide) | ((with_reducible show _ = _); rfl) | ((with_reducible show ∀ _, _ = _); intro _; rfl) | ((with_reducible show ∀ _ _, _ = _); intro _ _; rfl) | ((with_reducible show ∀ _ _ _, _ = _); intro _ _ _; rfl) | (with_reducible refine' bt_val ?_ ?_))
    case b0 =>
    with_reducible refine' xs_cons ?a1 ?b1
    case a1 => repeat' (first | with_reducible exact ev_int _ _ _ | with_reducible exact ev_str _ _ _ | with_reducible exact ev_none _ _ | with_reducible exact ev_bool _ _ _ | (with_reducible refine' ev_name _ _ ?_ ?_) | (with_reducible refine' ev_binop ?_ ?_) | (with_reducible refine' ev_neg ?_) | (with_reducible refine' ev_cmp ?_ ?_ ?_) | (with_reducible refine' ev_ifexp ?_ ?_ ?_) | (with_reducible refine' ev_list ?_) | (with_reducible refine' ev_tuple ?_) | with_reducible exact es_nil | (with_reducible refine' es_cons ?_ ?_ ?_) | (with_reducible refine' ev_cut ?_ ?_ ?_) | (with_reducible refine' ev_idx ?_ ?_ ?_) | with_reducible exact pt_none | (with_reducible refine' pt_some ?_) | (with_reducible refine' bt_cmp ?_ ?_ ?_) | (with_reducible refine' bt_not ?_) | (with_reducible refine' bt_bool ?_) | with_reducible exact at_and_nil | with_reducible exact at_or_nil | (with_reducible refine' at_and_cons ?_ ?_) | (with_reducible refine' at_or_cons ?_ ?_) | with_reducible exact xs_nil | (with_reducible refine' xs_cons ?_ ?_) | (with_reducible refine' st_assign ?_ ?_ ?_) | (with_reducible refine' st_aug ?_ ?_ ?_) | (with_reducible refine' st_if ?_ ?_ ?_) | (with_reducible refine' st_append ?_ ?_ ?_ ?_ ?_ ?_) | (with_reducible refine' st_augidx ?_ ?_ ?_ ?_) | (with_reducible refine' st_ret ?_) | with_reducible exact st_ret0 | with_reducible exact st_cont | with_reducible exact st_pass | (with_reducible refine' st_while ?_ ?_) | (with_reducible refine' st_for ?_ (as_name ?_) ?_ ?_ ?_) | (with_reducible refine' ev_len (by assumption) ?_ ?_ ?_ ?_ ?_ ?_ ?_ ?_) | (with_reducible refine' ev_chr (by assumption) ?_ ?_ ?_ ?_ ?_ ?_ ?_ ?_) | (with_reducible refine' ev_range (by assumption) ?_ ?_ ?_ ?_ ?_ ?_ ?_ ?_) | (with_reducible refine' ev_abs (by assumption) ?_ ?_ ?_ ?_ ?_ ?_ ?_ ?_) | (with_reducible refine' ev_count _ ?_ ?_ ?_ ?_ ?_) | (with_reducible refine' ev_split _ ?_ ?_ ?_ ?_ ?_) | (with_reducible refine' ev_index _ ?_ ?_ ?_ ?_) | (with_reducible refine' ev_attr (C := 113) (by assumption) ?_ ?_ ?_ ?_ ?_ ?_) | (with_reducible refine' st_forT ?_ (as_tuple3 (as_name ?_) (as_name ?_) (as_name ?_) ?_ ?_) ?_ ?_ ?_) | (rintro _ _ _ ⟨_, _, _, rfl, _⟩; exact ⟨_, rfl⟩) | (with_reducible refine' ev_max (by assumption) ?_ ?_ ?_ ?_ ?_ ?_ ?_ ?_) | (with_reducible refine' ev_sum (by assumption) ?_ ?_ ?_ ?_ ?_ ?_ ?_ ?_) | (with_reducible refine' ev_fn (x := Str.ofString "_law_written") (f := 124) (by assumption) (by assumption) ?_ ?_ ?_ ?_ ?_ ?_ ?_ ?_ ?_) | (with_reducible refine' ev_fn (x := Str.ofString "_law_read") (f := 131) (by assumption) (by assumption) ?_ ?_ ?_ ?_ ?_ ?_ ?_ ?_ ?_) | (with_reducible refine' ev_fn (x := Str.ofString "_law_cells") (f := 136) (by assumption) (by assumption) ?_ ?_ ?_ ?_ ?_ ?_ ?_ ?_ ?_) | with_reducible exact ts_nil | (with_reducible refine' ts_one ?_) | ((with_reducible show nsIn _ _ _ = _); k_is) | ((with_reducible show plainGet _ _ _ = _); k_is) | ((with_reducible show hasDictIn _ _ = _); k_is) | ((with_reducible show findIn _ _ _ = _); k_is) | ((with_reducible show noGet _ _ = _); k_is) | ((with_reducible show Stores _ _); first | exact Or.inl rfl | exact Or.inr ⟨rfl, rfl⟩) | ((with_reducible show (_ == _) = false); decide) | ((with_reducible show behindInMarks _ _ = _); with_unfolding_all rfl) | ((with_reducible show _ ≤ _); decide) | ((with_reducible show _ = _); rfl) | ((with_reducible show ∀ _, _ = _); intro _; rfl) | ((with_reducible show ∀ _ _, _ = _); intro _ _; rfl) | ((with_reducible show ∀ _ _ _, _ = _); intro _ _ _; rfl) | (with_reducible refine' bt_val ?_ ?_))
    case b1 =>
    with_reducible refine' xs_cons ?a2 ?b2
    case a2 => repeat' (first | with_reducible exact ev_int _ _ _ | with_reducible exact ev_str _ _ _ | with_reducible exact ev_none _ _ | with_reducible exact ev_bool _ _ _ | (with_reducible refine' ev_name _ _ ?_ ?_) | (with_reducible refine' ev_binop ?_ ?_) | (with_reducible refine' ev_neg ?_) | (with_reducible refine' ev_cmp ?_ ?_ ?_) | (with_reducible refine' ev_ifexp ?_ ?_ ?_) | (with_reducible refine' ev_list ?_) | (with_reducible refine' ev_tuple ?_) | with_reducible exact es_nil | (with_reducible refine' es_cons ?_ ?_ ?_) | (with_reducible refine' ev_cut ?_ ?_ ?_) | (with_reducible refine' ev_idx ?_ ?_ ?_) | with_reducible exact pt_none | (with_reducible refine' pt_some ?_) | (with_reducible refine' bt_cmp ?_ ?_ ?_) | (with_reducible refine' bt_not ?_) | (with_reducible refine' bt_bool ?_) | with_reducible exact at_and_nil | with_reducible exact at_or_nil | (with_reducible refine' at_and_cons ?_ ?_) | (with_reducible refine' at_or_cons ?_ ?_) | with_reducible exact xs_nil | (with_reducible refine' xs_cons ?_ ?_) | (with_reducible refine' st_assign ?_ ?_ ?_) | (with_reducible refine' st_aug ?_ ?_ ?_) | (with_reducible refine' st_if ?_ ?_ ?_) | (with_reducible refine' st_append ?_ ?_ ?_ ?_ ?_ ?_) | (with_reducible refine' st_augidx ?_ ?_ ?_ ?_) | (with_reducible refine' st_ret ?_) | with_reducible exact st_ret0 | with_reducible exact st_cont | with_reducible exact st_pass | (with_reducible refine' st_while ?_ ?_) | (with_reducible refine' st_for ?_ (as_name ?_) ?_ ?_ ?_) | (with_reducible refine' ev_len (by assumption) ?_ ?_ ?_ ?_ ?_ ?_ ?_ ?_) | (with_reducible refine' ev_chr (by assumption) ?_ ?_ ?_ ?_ ?_ ?_ ?_ ?_) | (with_reducible refine' ev_range (by assumption) ?_ ?_ ?_ ?_ ?_ ?_ ?_ ?_) | (with_reducible refine' ev_abs (by assumption) ?_ ?_ ?_ ?_ ?_ ?_ ?_ ?_) | (with_reducible refine' ev_count _ ?_ ?_ ?_ ?_ ?_) | (with_reducible refine' ev_split _ ?_ ?_ ?_ ?_ ?_) | (with_reducible refine' ev_index _ ?_ ?_ ?_ ?_) | (with_reducible refine' ev_attr (C := 113) (by assumption) ?_ ?_ ?_ ?_ ?_ ?_) | (with_reducible refine' st_forT ?_ (as_tuple3 (as_name ?_) (as_name ?_) (as_name ?_) ?_ ?_) ?_ ?_ ?_) | (rintro _ _ _ ⟨_, _, _, rfl, _⟩; exact ⟨_, rfl⟩) | (with_reducible refine' ev_max (by assumption) ?_ ?_ ?_ ?_ ?_ ?_ ?_ ?_) | (with_reducible refine' ev_sum (by assumption) ?_ ?_ ?_ ?_ ?_ ?_ ?_ ?_) | (with_reducible refine' ev_fn (x := Str.ofString "_law_written") (f := 124) (by assumption) (by assumption) ?_ ?_ ?_ ?_ ?_ ?_ ?_ ?_ ?_) | (with_reducible refine' ev_fn (x := Str.ofString "_law_read") (f := 131) (by assumption) (by assumption) ?_ ?_ ?_ ?_ ?_ ?_ ?_ ?_ ?_) | (with_reducible refine' ev_fn (x := Str.ofString "_law_cells") (f := 136) (by assumption) (by assumption) ?_ ?_ ?_ ?_ ?_ ?_ ?_ ?_ ?_) | with_reducible exact ts_nil | (with_reducible refine' ts_one ?_) | ((with_reducible show nsIn _ _ _ = _); k_is) | ((with_reducible show plainGet _ _ _ = _); k_is) | ((with_reducible show hasDictIn _ _ = _); k_is) | ((with_reducible show findIn _ _ _ = _); k_is) | ((with_reducible show noGet _ _ = _); k_is) | ((with_reducible show Stores _ _); first | exact Or.inl rfl | exact Or.inr ⟨rfl, rfl⟩) | ((with_reducible show (_ == _) = false); decide) | ((with_reducible show behindInMarks _ _ = _); with_unfolding_all rfl) | ((with_reducible show _ ≤ _); decide) | ((with_reducible show _ = _); rfl) | ((with_reducible show ∀ _, _ = _); intro _; rfl) | ((with_reducible show ∀ _ _, _ = _); intro _ _; rfl) | ((with_reducible show ∀ _ _ _, _ = _); intro _ _ _; rfl) | (with_reducible refine' bt_val ?_ ?_))
    case b2 =>
    with_reducible refine' xs_cons ?a3 ?b3
    case a3 => repeat' (first | with_reducible exact ev_int _ _ _ | with_reducible exact ev_str _ _ _ | with_reducible exact ev_none _ _ | with_reducible exact ev_bool _ _ _ | (with_reducible refine' ev_name _ _ ?_ ?_) | (with_reducible refine' ev_binop ?_ ?_) | (with_reducible refine' ev_neg ?_) | (with_reducible refine' ev_cmp ?_ ?_ ?_) | (with_reducible refine' ev_ifexp ?_ ?_ ?_) | (with_reducible refine' ev_list ?_) | (with_reducible refine' ev_tuple ?_) | with_reducible exact es_nil | (with_reducible refine' es_cons ?_ ?_ ?_) | (with_reducible refine' ev_cut ?_ ?_ ?_) | (with_reducible refine' ev_idx ?_ ?_ ?_) | with_reducible exact pt_none | (with_reducible refine' pt_some ?_) | (with_reducible refine' bt_cmp ?_ ?_ ?_) | (with_reducible refine' bt_not ?_) | (with_reducible refine' bt_bool ?_) | with_reducible exact at_and_nil | with_reducible exact at_or_nil | (with_reducible refine' at_and_cons ?_ ?_) | (with_reducible refine' at_or_cons ?_ ?_) | with_reducible exact xs_nil | (with_reducible refine' xs_cons ?_ ?_) | (with_reducible refine' st_assign ?_ ?_ ?_) | (with_reducible refine' st_aug ?_ ?_ ?_) | (with_reducible refine' st_if ?_ ?_ ?_) | (with_reducible refine' st_append ?_ ?_ ?_ ?_ ?_ ?_) | (with_reducible refine' st_augidx ?_ ?_ ?_ ?_) | (with_reducible refine' st_ret ?_) | with_reducible exact st_ret0 | with_reducible exact st_cont | with_reducible exact st_pass | (with_reducible refine' st_while ?_ ?_) | (with_reducible refine' st_for ?_ (as_name ?_) ?_ ?_ ?_) | (with_reducible refine' ev_len (by assumption) ?_ ?_ ?_ ?_ ?_ ?_ ?_ ?_) | (with_reducible refine' ev_chr (by assumption) ?_ ?_ ?_ ?_ ?_ ?_ ?_ ?_) | (with_reducible refine' ev_range (by assumption) ?_ ?_ ?_ ?_ ?_ ?_ ?_ ?_) | (with_reducible refine' ev_abs (by assumption) ?_ ?_ ?_ ?_ ?_ ?_ ?_ ?_) | (with_reducible refine' ev_count _ ?_ ?_ ?_ ?_ ?_) | (with_reducible refine' ev_split _ ?_ ?_ ?_ ?_ ?_) | (with_reducible refine' ev_index _ ?_ ?_ ?_ ?_) | (with_reducible refine' ev_attr (C := 113) (by assumption) ?_ ?_ ?_ ?_ ?_ ?_) | (with_reducible refine' st_forT ?_ (as_tuple3 (as_name ?_) (as_name ?_) (as_name ?_) ?_ ?_) ?_ ?_ ?_) | (rintro _ _ _ ⟨_, _, _, rfl, _⟩; exact ⟨_, rfl⟩) | (with_reducible refine' ev_max (by assumption) ?_ ?_ ?_ ?_ ?_ ?_ ?_ ?_) | (with_reducible refine' ev_sum (by assumption) ?_ ?_ ?_ ?_ ?_ ?_ ?_ ?_) | (with_reducible refine' ev_fn (x := Str.ofString "_law_written") (f := 124) (by assumption) (by assumption) ?_ ?_ ?_ ?_ ?_ ?_ ?_ ?_ ?_) | (with_reducible refine' ev_fn (x := Str.ofString "_law_read") (f := 131) (by assumption) (by assumption) ?_ ?_ ?_ ?_ ?_ ?_ ?_ ?_ ?_) | (with_reducible refine' ev_fn (x := Str.ofString "_law_cells") (f := 136) (by assumption) (by assumption) ?_ ?_ ?_ ?_ ?_ ?_ ?_ ?_ ?_) | with_reducible exact ts_nil | (with_reducible refine' ts_one ?_) | ((with_reducible show nsIn _ _ _ = _); k_is) | ((with_reducible show plainGet _ _ _ = _); k_is) | ((with_reducible show hasDictIn _ _ = _); k_is) | ((with_reducible show findIn _ _ _ = _); k_is) | ((with_reducible show noGet _ _ = _); k_is) | ((with_reducible show Stores _ _); first | exact Or.inl rfl | exact Or.inr ⟨rfl, rfl⟩) | ((with_reducible show (_ == _) = false); decide) | ((with_reducible show behindInMarks _ _ = _); with_unfolding_all rfl) | ((with_reducible show _ ≤ _); decide) | ((with_reducible show _ = _); rfl) | ((with_reducible show ∀ _, _ = _); intro _; rfl) | ((with_reducible show ∀ _ _, _ = _); intro _ _; rfl) | ((with_reducible show ∀ _ _ _, _ = _); intro _ _ _; rfl) | (with_reducible refine' bt_val ?_ ?_))
    case b3 =>
    with_reducible refine' xs_cons ?a4 ?b4
    case a4 => repeat' (first | with_reducible exact ev_int _ _ _ | with_reducible exact ev_str _ _ _ | with_reducible exact ev_none _ _ | with_reducible exact ev_bool _ _ _ | (with_reducible refine' ev_name _ _ ?_ ?_) | (with_reducible refine' ev_binop ?_ ?_) | (with_reducible refine' ev_neg ?_) | (with_reducible refine' ev_cmp ?_ ?_ ?_) | (with_reducible refine' ev_ifexp ?_ ?_ ?_) | (with_reducible refine' ev_list ?_) | (with_reducible refine' ev_tuple ?_) | with_reducible exact es_nil | (with_reducible refine' es_cons ?_ ?_ ?_) | (with_reducible refine' ev_cut ?_ ?_ ?_) | (with_reducible refine' ev_idx ?_ ?_ ?_) | with_reducible exact pt_none | (with_reducible refine' pt_some ?_) | (with_reducible refine' bt_cmp ?_ ?_ ?_) | (with_reducible refine' bt_not ?_) | (with_reducible refine' bt_bool ?_) | with_reducible exact at_and_nil | with_reducible exact at_or_nil | (with_reducible refine' at_and_cons ?_ ?_) | (with_reducible refine' at_or_cons ?_ ?_) | with_reducible exact xs_nil | (with_reducible refine' xs_cons ?_ ?_) | (with_reducible refine' st_assign ?_ ?_ ?_) | (with_reducible refine' st_aug ?_ ?_ ?_) | (with_reducible refine' st_if ?_ ?_ ?_) | (with_reducible refine' st_append ?_ ?_ ?_ ?_ ?_ ?_) | (with_reducible refine' st_augidx ?_ ?_ ?_ ?_) | (with_reducible refine' st_ret ?_) | with_reducible exact st_ret0 | with_reducible exact st_cont | with_reducible exact st_pass | (with_reducible refine' st_while ?_ ?_) | (with_reducible refine' st_for ?_ (as_name ?_) ?_ ?_ ?_) | (with_reducible refine' ev_len (by assumption) ?_ ?_ ?_ ?_ ?_ ?_ ?_ ?_) | (with_reducible refine' ev_chr (by assumption) ?_ ?_ ?_ ?_ ?_ ?_ ?_ ?_) | (with_reducible refine' ev_range (by assumption) ?_ ?_ ?_ ?_ ?_ ?_ ?_ ?_) | (with_reducible refine' ev_abs (by assumption) ?_ ?_ ?_ ?_ ?_ ?_ ?_ ?_) | (with_reducible refine' ev_count _ ?_ ?_ ?_ ?_ ?_) | (with_reducible refine' ev_split _ ?_ ?_ ?_ ?_ ?_) | (with_reducible refine' ev_index _ ?_ ?_ ?_ ?_) | (with_reducible refine' ev_attr (C := 113) (by assumption) ?_ ?_ ?_ ?_ ?_ ?_) | (with_reducible refine' st_forT ?_ (as_tuple3 (as_name ?_) (as_name ?_) (as_name ?_) ?_ ?_) ?_ ?_ ?_) | (rintro _ _ _ ⟨_, _, _, rfl, _⟩; exact ⟨_, rfl⟩) | (with_reducible refine' ev_max (by assumption) ?_ ?_ ?_ ?_ ?_ ?_ ?_ ?_) | (with_reducible refine' ev_sum (by assumption) ?_ ?_ ?_ ?_ ?_ ?_ ?_ ?_) | (with_reducible refine' ev_fn (x := Str.ofString "_law_written") (f := 124) (by assumption) (by assumption) ?_ ?_ ?_ ?_ ?_ ?_ ?_ ?_ ?_) | (with_reducible refine' ev_fn (x := Str.ofString "_law_read") (f := 131) (by assumption) (by assumption) ?_ ?_ ?_ ?_ ?_ ?_ ?_ ?_ ?_) | (with_reducible refine' ev_fn (x := Str.ofString "_law_cells") (f := 136) (by assumption) (by assumption) ?_ ?_ ?_ ?_ ?_ ?_ ?_ ?_ ?_) | with_reducible exact ts_nil | (with_reducible refine' ts_one ?_) | ((with_reducible show nsIn _ _ _ = _); k_is) | ((with_reducible show plainGet _ _ _ = _); k_is) | ((with_reducible show hasDictIn _ _ = _); k_is) | ((with_reducible show findIn _ _ _ = _); k_is) | ((with_reducible show noGet _ _ = _); k_is) | ((with_reducible show Stores _ _); first | exact Or.inl rfl | exact Or.inr ⟨rfl, rfl⟩) | ((with_reducible show (_ == _) = false); decide) | ((with_reducible show behindInMarks _ _ = _); with_unfolding_all rfl) | ((with_reducible show _ ≤ _); decide) | ((with_reducible show _ = _); rfl) | ((with_reducible show ∀ _, _ = _); intro _; rfl) | ((with_reducible show ∀ _ _, _ = _); intro _ _; rfl) | ((with_reducible show ∀ _ _ _, _ = _); intro _ _ _; rfl) | (with_reducible refine' bt_val ?_ ?_))
    case b4 =>
    with_reducible refine' xs_cons ?a5 (xs_cons ?a6 xs_nil)
    case a6 => repeat' (first | with_reducible exact ev_int _ _ _ | with_reducible exact ev_str _ _ _ | with_reducible exact ev_none _ _ | with_reducible exact ev_bool _ _ _ | (with_reducible refine' ev_name _ _ ?_ ?_) | (with_reducible refine' ev_binop ?_ ?_) | (with_reducible refine' ev_neg ?_) | (with_reducible refine' ev_cmp ?_ ?_ ?_) | (with_reducible refine' ev_ifexp ?_ ?_ ?_) | (with_reducible refine' ev_list ?_) | (with_reducible refine' ev_tuple ?_) | with_reducible exact es_nil | (with_reducible refine' es_cons ?_ ?_ ?_) | (with_reducible refine' ev_cut ?_ ?_ ?_) | (with_reducible refine' ev_idx ?_ ?_ ?_) | with_reducible exact pt_none | (with_reducible refine' pt_some ?_) | (with_reducible refine' bt_cmp ?_ ?_ ?_) | (with_reducible refine' bt_not ?_) | (with_reducible refine' bt_bool ?_) | with_reducible exact at_and_nil | with_reducible exact at_or_nil | (with_reducible refine' at_and_cons ?_ ?_) | (with_reducible refine' at_or_cons ?_ ?_) | with_reducible exact xs_nil | (with_reducible refine' xs_cons ?_ ?_) | (with_reducible refine' st_assign ?_ ?_ ?_) | (with_reducible refine' st_aug ?_ ?_ ?_) | (with_reducible refine' st_if ?_ ?_ ?_) | (with_reducible refine' st_append ?_ ?_ ?_ ?_ ?_ ?_) | (with_reducible refine' st_augidx ?_ ?_ ?_ ?_) | (with_reducible refine' st_ret ?_) | with_reducible exact st_ret0 | with_reducible exact st_cont | with_reducible exact st_pass | (with_reducible refine' st_while ?_ ?_) | (with_reducible refine' st_for ?_ (as_name ?_) ?_ ?_ ?_) | (with_reducible refine' ev_len (by assumption) ?_ ?_ ?_ ?_ ?_ ?_ ?_ ?_) | (with_reducible refine' ev_chr (by assumption) ?_ ?_ ?_ ?_ ?_ ?_ ?_ ?_) | (with_reducible refine' ev_range (by assumption) ?_ ?_ ?_ ?_ ?_ ?_ ?_ ?_) | (with_reducible refine' ev_abs (by assumption) ?_ ?_ ?_ ?_ ?_ ?_ ?_ ?_) | (with_reducible refine' ev_count _ ?_ ?_ ?_ ?_ ?_) | (with_reducible refine' ev_split _ ?_ ?_ ?_ ?_ ?_) | (with_reducible refine' ev_index _ ?_ ?_ ?_ ?_) | (with_reducible refine' ev_attr (C := 113) (by assumption) ?_ ?_ ?_ ?_ ?_ ?_) | (with_reducible refine' st_forT ?_ (as_tuple3 (as_name ?_) (as_name ?_) (as_name ?_) ?_ ?_) ?_ ?_ ?_) | (rintro _ _ _ ⟨_, _, _, rfl, _⟩; exact ⟨_, rfl⟩) | (with_reducible refine' ev_max (by assumption) ?_ ?_ ?_ ?_ ?_ ?_ ?_ ?_) | (with_reducible refine' ev_sum (by assumption) ?_ ?_ ?_ ?_ ?_ ?_ ?_ ?_) | (with_reducible refine' ev_fn (x := Str.ofString "_law_written") (f := 124) (by assumption) (by assumption) ?_ ?_ ?_ ?_ ?_ ?_ ?_ ?_ ?_) | (with_reducible refine' ev_fn (x := Str.ofString "_law_read") (f := 131) (by assumption) (by assumption) ?_ ?_ ?_ ?_ ?_ ?_ ?_ ?_ ?_) | (with_reducible refine' ev_fn (x := Str.ofString "_law_cells") (f := 136) (by assumption) (by assumption) ?_ ?_ ?_ ?_ ?_ ?_ ?_ ?_ ?_) | with_reducible exact ts_nil | (with_reducible refine' ts_one ?_) | ((with_reducible show nsIn _ _ _ = _); k_is) | ((with_reducible show plainGet _ _ _ = _); k_is) | ((with_reducible show hasDictIn _ _ = _); k_is) | ((with_reducible show findIn _ _ _ = _); k_is) | ((with_reducible show noGet _ _ = _); k_is) | ((with_reducible show Stores _ _); first | exact Or.inl rfl | exact Or.inr ⟨rfl, rfl⟩) | ((with_reducible show (_ == _) = false); decide) | ((with_reducible show behindInMarks _ _ = _); with_unfolding_all rfl) | ((with_reducible show _ ≤ _); decide) | ((with_reducible show _ = _); rfl) | ((with_reducible show ∀ _, _ = _); intro _; rfl) | ((with_reducible show ∀ _ _, _ = _); intro _ _; rfl) | ((with_reducible show ∀ _ _ _, _ = _); intro _ _ _; rfl) | (with_reducible refine' bt_val ?_ ?_))
    case a5 =>
      refine' ExOk.mono (F' := Lp10) ?fw ?fm
      case fw =>
        with_reducible refine' st_for ?fi (as_name ?fk) ?fb ?fn ?fl
        case fk => first | exact Or.inl rfl | exact Or.inr ⟨rfl, rfl⟩
        case fn => intro _; rfl
        case fl => intro _ _; rfl
        case fi => repeat' (first | with_reducible exact ev_int _ _ _ | with_reducible exact ev_str _ _ _ | with_reducible exact ev_none _ _ | with_reducible exact ev_bool _ _ _ | (with_reducible refine' ev_name _ _ ?_ ?_) | (with_reducible refine' ev_binop ?_ ?_) | (with_reducible refine' ev_neg ?_) | (with_reducible refine' ev_cmp ?_ ?_ ?_) | (with_reducible refine' ev_ifexp ?_ ?_ ?_) | (with_reducible refine' ev_list ?_) | (with_reducible refine' ev_tuple ?_) | with_reducible exact es_nil | (with_reducible refine' es_cons ?_ ?_ ?_) | (with_reducible refine' ev_cut ?_ ?_ ?_) | (with_reducible refine' ev_idx ?_ ?_ ?_) | with_reducible exact pt_none | (with_reducible refine' pt_some ?_) | (with_reducible refine' bt_cmp ?_ ?_ ?_) | (with_reducible refine' bt_not ?_) | (with_reducible refine' bt_bool ?_) | with_reducible exact at_and_nil | with_reducible exact at_or_nil | (with_reducible refine' at_and_cons ?_ ?_) | (with_reducible refine' at_or_cons ?_ ?_) | with_reducible exact xs_nil | (with_reducible refine' xs_cons ?_ ?_) | (with_reducible refine' st_assign ?_ ?_ ?_) | (with_reducible refine' st_aug ?_ ?_ ?_) | (with_reducible refine' st_if ?_ ?_ ?_) | (with_reducible refine' st_append ?_ ?_ ?_ ?_ ?_ ?_) | (with_reducible refine' st_augidx ?_ ?_ ?_ ?_) | (with_reducible refine' st_ret ?_) | with_reducible exact st_ret0 | with_reducible exact st_cont | with_reducible exact st_pass | (with_reducible refine' st_while ?_ ?_) | (with_reducible refine' st_for ?_ (as_name ?_) ?_ ?_ ?_) | (with_reducible refine' ev_len (by assumption) ?_ ?_ ?_ ?_ ?_ ?_ ?_ ?_) | (with_reducible refine' ev_chr (by assumption) ?_ ?_ ?_ ?_ ?_ ?_ ?_ ?_) | (with_reducible refine' ev_range (by assumption) ?_ ?_ ?_ ?_ ?_ ?_ ?_ ?_) | (with_reducible refine' ev_abs (by assumption) ?_ ?_ ?_ ?_ ?_ ?_ ?_ ?_) | (with_reducible refine' ev_count _ ?_ ?_ ?_ ?_ ?_) | (with_reducible refine' ev_split _ ?_ ?_ ?_ ?_ ?_) | (with_reducible refine' ev_index _ ?_ ?_ ?_ ?_) | (with_reducible refine' ev_attr (C := 113) (by assumption) ?_ ?_ ?_ ?_ ?_ ?_) | (with_reducible refine' st_forT ?_ (as_tuple3 (as_name ?_) (as_name ?_) (as_name ?_) ?_ ?_) ?_ ?_ ?_) | (rintro _ _ _ ⟨_, _, _, rfl, _⟩; exact ⟨_, rfl⟩) | (with_reducible refine' ev_max (by assumption) ?_ ?_ ?_ ?_ ?_ ?_ ?_ ?_) | (with_reducible refine' ev_sum (by assumption) ?_ ?_ ?_ ?_ ?_ ?_ ?_ ?_) | (with_reducible refine' ev_fn (x := Str.ofString "_law_written") (f := 124) (by assumption) (by assumption) ?_ ?_ ?_ ?_ ?_ ?_ ?_ ?_ ?_) | (with_reducible refine' ev_fn (x := Str.ofString "_law_read") (f := 131) (by assumption) (by assumption) ?_ ?_ ?_ ?_ ?_ ?_ ?_ ?_ ?_) | (with_reducible refine' ev_fn (x := Str.ofString "_law_cells") (f := 136) (by assumption) (by assumption) ?_ ?_ ?_ ?_ ?_ ?_ ?_ ?_ ?_) | with_reducible exact ts_nil | (with_reducible refine' ts_one ?_) | ((with_reducible show nsIn _ _ _ = _); k_is) | ((with_reducible show plainGet _ _ _ = _); k_is) | ((with_reducible show hasDictIn _ _ = _); k_is) | ((with_reducible show findIn _ _ _ = _); k_is) | ((with_reducible show noGet _ _ = _); k_is) | ((with_reducible show Stores _ _); first | exact Or.inl rfl | exact Or.inr ⟨rfl, rfl⟩) | ((with_reducible show (_ == _) = false); decide) | ((with_reducible show behindInMarks _ _ = _); with_unfolding_all rfl) | ((with_reducible show _ ≤ _); decide) | ((with_reducible show _ = _); rfl) | ((with_reducible show ∀ _, _ = _); intro _; rfl) | ((with_reducible show ∀ _ _, _ = _); intro _ _; rfl) | ((with_reducible show ∀ _ _ _, _ = _); intro _ _ _; rfl) | (with_reducible refine' bt_val ?_ ?_))
        case fb =>
          with_reducible refine' xs_cons ?u0 ?u1
          case u0 => repeat' (first | with_reducible exact ev_int _ _ _ | with_reducible exact ev_str _ _ _ | with_reducible exact ev_none _ _ | with_reducible exact ev_bool _ _ _ | (with_reducible refine' ev_name _ _ ?_ ?_) | (with_reducible refine' ev_binop ?_ ?_) | (with_reducible refine' ev_neg ?_) | (with_reducible refine' ev_cmp ?_ ?_ ?_) | (with_reducible refine' ev_ifexp ?_ ?_ ?_) | (with_reducible refine' ev_list ?_) | (with_reducible refine' ev_tuple ?_) | with_reducible exact es_nil | (with_reducible refine' es_cons ?_ ?_ ?_) | (with_reducible refine' ev_cut ?_ ?_ ?_) | (with_reducible refine' ev_idx ?_ ?_ ?_) | with_reducible exact pt_none | (with_reducible refine' pt_some ?_) | (with_reducible refine' bt_cmp ?_ ?_ ?_) | (with_reducible refine' bt_not ?_) | (with_reducible refine' bt_bool ?_) | with_reducible exact at_and_nil | with_reducible exact at_or_nil | (with_reducible refine' at_and_cons ?_ ?_) | (with_reducible refine' at_or_cons ?_ ?_) | with_reducible exact xs_nil | (with_reducible refine' xs_cons ?_ ?_) | (with_reducible refine' st_assign ?_ ?_ ?_) | (with_reducible refine' st_aug ?_ ?_ ?_) | (with_reducible refine' st_if ?_ ?_ ?_) | (with_reducible refine' st_append ?_ ?_ ?_ ?_ ?_ ?_) | (with_reducible refine' st_augidx ?_ ?_ ?_ ?_) | (with_reducible refine' st_ret ?_) | with_reducible exact st_ret0 | with_reducible exact st_cont | with_reducible exact st_pass | (with_reducible refine' st_while ?_ ?_) | (with_reducible refine' st_for ?_ (as_name ?_) ?_ ?_ ?_) | (with_reducible refine' ev_len (by assumption) ?_ ?_ ?_ ?_ ?_ ?_ ?_ ?_) | (with_reducible refine' ev_chr (by assumption) ?_ ?_ ?_ ?_ ?_ ?_ ?_ ?_) | (with_reducible refine' ev_range (by assumption) ?_ ?_ ?_ ?_ ?_ ?_ ?_ ?_) | (with_reducible refine' ev_abs (by assumption) ?_ ?_ ?_ ?_ ?_ ?_ ?_ ?_) | (with_reducible refine' ev_count _ ?_ ?_ ?_ ?_ ?_) | (with_reducible refine' ev_split _ ?_ ?_ ?_ ?_ ?_) | (with_reducible refine' ev_index _ ?_ ?_ ?_ ?_) | (with_reducible refine' ev_attr (C := 113) (by assumption) ?_ ?_ ?_ ?_ ?_ ?_) | (with_reducible refine' st_forT ?_ (as_tuple3 (as_name ?_) (as_name ?_) (as_name ?_) ?_ ?_) ?_ ?_ ?_) | (rintro _ _ _ ⟨_, _, _, rfl, _⟩; exact ⟨_, rfl⟩) | (with_reducible refine' ev_max (by assumption) ?_ ?_ ?_ ?_ ?_ ?_ ?_ ?_) | (with_reducible refine' ev_sum (by assumption) ?_ ?_ ?_ ?_ ?_ ?_ ?_ ?_) | (with_reducible refine' ev_fn (x := Str.ofString "_law_written") (f := 124) (by assumption) (by assumption) ?_ ?_ ?_ ?_ ?_ ?_ ?_ ?_ ?_) | (with_reducible refine' ev_fn (x := Str.ofString "_law_read") (f := 131) (by assumption) (by assumption) ?_ ?_ ?_ ?_ ?_ ?_ ?_ ?_ ?_) | (with_reducible refine' ev_fn (x := Str.ofString "_law_cells") (f := 136) (by assumption) (by assumption) ?_ ?_ ?_ ?_ ?_ ?_ ?_ ?_ ?_) | with_reducible exact ts_nil | (with_reducible refine' ts_one ?_) | ((with_reducible show nsIn _ _ _ = _); k_is) | ((with_reducible show plainGet _ _ _ = _); k_is) | ((with_reducible show hasDictIn _ _ = _); k_is) | ((with_reducible show findIn _ _ _ = _); k_is) | ((with_reducible show noGet _ _ = _); k_is) | ((with_reducible show Stores _ _); first | exact Or.inl rfl | exact Or.inr ⟨rfl, rfl⟩) | ((with_reducible show (_ == _) = false); decide) | ((with_reducible show behindInMarks _ _ = _); with_unfolding_all rfl) | ((with_reducible show _ ≤ _); decide) | ((with_reducible show _ = _); rfl) | ((with_reducible show ∀ _, _ = _); intro _; rfl) | ((with_reducible show ∀ _ _, _ = _); intro _ _; rfl) | ((with_reducible show ∀ _ _ _, _ = _); intro _ _ _; rfl) | (with_reducible refine' bt_val ?_ ?_))
          case u1 =>
          with_reducible refine' xs_cons ?u2 ?u3
          case u2 => repeat' (first | with_reducible exact ev_int _ _ _ | with_reducible exact ev_str _ _ _ | with_reducible exact ev_none _ _ | with_reducible exact ev_bool _ _ _ | (with_reducible refine' ev_name _ _ ?_ ?_) | (with_reducible refine' ev_binop ?_ ?_) | (with_reducible refine' ev_neg ?_) | (with_reducible refine' ev_cmp ?_ ?_ ?_) | (with_reducible refine' ev_ifexp ?_ ?_ ?_) | (with_reducible refine' ev_list ?_) | (with_reducible refine' ev_tuple ?_) | with_reducible exact es_nil | (with_reducible refine' es_cons ?_ ?_ ?_) | (with_reducible refine' ev_cut ?_ ?_ ?_) | (with_reducible refine' ev_idx ?_ ?_ ?_) | with_reducible exact pt_none | (with_reducible refine' pt_some ?_) | (with_reducible refine' bt_cmp ?_ ?_ ?_) | (with_reducible refine' bt_not ?_) | (with_reducible refine' bt_bool ?_) | with_reducible exact at_and_nil | with_reducible exact at_or_nil | (with_reducible refine' at_and_cons ?_ ?_) | (with_reducible refine' at_or_cons ?_ ?_) | with_reducible exact xs_nil | (with_reducible refine' xs_cons ?_ ?_) | (with_reducible refine' st_assign ?_ ?_ ?_) | (with_reducible refine' st_aug ?_ ?_ ?_) | (with_reducible refine' st_if ?_ ?_ ?_) | (with_reducible refine' st_append ?_ ?_ ?_ ?_ ?_ ?_) | (with_reducible refine' st_augidx ?_ ?_ ?_ ?_) | (with_reducible refine' st_ret ?_) | with_reducible exact st_ret0 | with_reducible exact st_cont | with_reducible exact st_pass | (with_reducible refine' st_while ?_ ?_) | (with_reducible refine' st_for ?_ (as_name ?_) ?_ ?_ ?_) | (with_reducible refine' ev_len (by assumption) ?_ ?_ ?_ ?_ ?_ ?_ ?_ ?_) | (with_reducible refine' ev_chr (by assumption) ?_ ?_ ?_ ?_ ?_ ?_ ?_ ?_) | (with_reducible refine' ev_range (by assumption) ?_ ?_ ?_ ?_ ?_ ?_ ?_ ?_) | (with_reducible refine' ev_abs (by assumption) ?_ ?_ ?_ ?_ ?_ ?_ ?_ ?_) | (with_reducible refine' ev_count _ ?_ ?_ ?_ ?_ ?_) | (with_reducible refine' ev_split _ ?_ ?_ ?_ ?_ ?_) | (with_reducible refine' ev_index _ ?_ ?_ ?_ ?_) | (with_reducible refine' ev_attr (C := 113) (by assumption) ?_ ?_ ?_ ?_ ?_ ?_) | (with_reducible refine' st_forT ?_ (as_tuple3 (as_name ?_) (as_name ?_) (as_name ?_) ?_ ?_) ?_ ?_ ?_) | (rintro _ _ _ ⟨_, _, _, rfl, _⟩; exact ⟨_, rfl⟩) | (with_reducible refine' ev_max (by assumption) ?_ ?_ ?_ ?_ ?_ ?_ ?_ ?_) | (with_reducible refine' ev_sum (by assumption) ?_ ?_ ?_ ?_ ?_ ?_ ?_ ?_) | (with_reducible refine' ev_fn (x := Str.ofString "_law_written") (f := 124) (by assumption) (by assumption) ?_ ?_ ?_ ?_ ?_ ?_ ?_ ?_ ?_) | (with_reducible refine' ev_fn (x := Str.ofString "_law_read") (f := 131) (by assumption) (by assumption) ?_ ?_ ?_ ?_ ?_ ?_ ?_ ?_ ?_) | (with_reducible refine' ev_fn (x := Str.ofString "_law_cells") (f := 136) (by assumption) (by assumption) ?_ ?_ ?_ ?_ ?_ ?_ ?_ ?_ ?_) | with_reducible exact ts_nil | (with_reducible refine' ts_one ?_) | ((with_reducible show nsIn _ _ _ = _); k_is) | ((with_reducible show plainGet _ _ _ = _); k_is) | ((with_reducible show hasDictIn _ _ = _); k_is) | ((with_reducible show findIn _ _ _ = _); k_is) | ((with_reducible show noGet _ _ = _); k_is) | ((with_reducible show Stores _ _); first | exact Or.inl rfl | exact Or.inr ⟨rfl, rfl⟩) | ((with_reducible show (_ == _) = false); decide) | ((with_reducible show behindInMarks _ _ = _); with_unfolding_all rfl) | ((with_reducible show _ ≤ _); decide) | ((with_reducible show _ = _); rfl) | ((with_reducible show ∀ _, _ = _); intro _; rfl) | ((with_reducible show ∀ _ _, _ = _); intro _ _; rfl) | ((with_reducible show ∀ _ _ _, _ = _); intro _ _ _; rfl) | (with_reducible refine' bt_val ?_ ?_))
          case u3 =>
          with_reducible refine' xs_cons ?u4 ?u5
          case u5 => repeat' (first | with_reducible exact ev_int _ _ _ | with_reducible exact ev_str _ _ _ | with_reducible exact ev_none _ _ | with_reducible exact ev_bool _ _ _ | (with_reducible refine' ev_name _ _ ?_ ?_) | (with_reducible refine' ev_binop ?_ ?_) | (with_reducible refine' ev_neg ?_) | (with_reducible refine' ev_cmp ?_ ?_ ?_) | (with_reducible refine' ev_ifexp ?_ ?_ ?_) | (with_reducible refine' ev_list ?_) | (with_reducible refine' ev_tuple ?_) | with_reducible exact es_nil | (with_reducible refine' es_cons ?_ ?_ ?_) | (with_reducible refine' ev_cut ?_ ?_ ?_) | (with_reducible refine' ev_idx ?_ ?_ ?_) | with_reducible exact pt_none | (with_reducible refine' pt_some ?_) | (with_reducible refine' bt_cmp ?_ ?_ ?_) | (with_reducible refine' bt_not ?_) | (with_reducible refine' bt_bool ?_) | with_reducible exact at_and_nil | with_reducible exact at_or_nil | (with_reducible refine' at_and_cons ?_ ?_) | (with_reducible refine' at_or_cons ?_ ?_) | with_reducible exact xs_nil | (with_reducible refine' xs_cons ?_ ?_) | (with_reducible refine' st_assign ?_ ?_ ?_) | (with_reducible refine' st_aug ?_ ?_ ?_) | (with_reducible refine' st_if ?_ ?_ ?_) | (with_reducible refine' st_append ?_ ?_ ?_ ?_ ?_ ?_) | (with_reducible refine' st_augidx ?_ ?_ ?_ ?_) | (with_reducible refine' st_ret ?_) | with_reducible exact st_ret0 | with_reducible exact st_cont | with_reducible exact st_pass | (with_reducible refine' st_while ?_ ?_) | (with_reducible refine' st_for ?_ (as_name ?_) ?_ ?_ ?_) | (with_reducible refine' ev_len (by assumption) ?_ ?_ ?_ ?_ ?_ ?_ ?_ ?_) | (with_reducible refine' ev_chr (by assumption) ?_ ?_ ?_ ?_ ?_ ?_ ?_ ?_) | (with_reducible refine' ev_range (by assumption) ?_ ?_ ?_ ?_ ?_ ?_ ?_ ?_) | (with_reducible refine' ev_abs (by assumption) ?_ ?_ ?_ ?_ ?_ ?_ ?_ ?_) | (with_reducible refine' ev_count _ ?_ ?_ ?_ ?_ ?_) | (with_reducible refine' ev_split _ ?_ ?_ ?_ ?_ ?_) | (with_reducible refine' ev_index _ ?_ ?_ ?_ ?_) | (with_reducible refine' ev_attr (C := 113) (by assumption) ?_ ?_ ?_ ?_ ?_ ?_) | (with_reducible refine' st_forT ?_ (as_tuple3 (as_name ?_) (as_name ?_) (as_name ?_) ?_ ?_) ?_ ?_ ?_) | (rintro _ _ _ ⟨_, _, _, rfl, _⟩; exact ⟨_, rfl⟩) | (with_reducible refine' ev_max (by assumption) ?_ ?_ ?_ ?_ ?_ ?_ ?_ ?_) | (with_reducible refine' ev_sum (by assumption) ?_ ?_ ?_ ?_ ?_ ?_ ?_ ?_) | (with_reducible refine' ev_fn (x := Str.ofString "_law_written") (f := 124) (by assumption) (by assumption) ?_ ?_ ?_ ?_ ?_ ?_ ?_ ?_ ?_) | (with_reducible refine' ev_fn (x := Str.ofString "_law_read") (f := 131) (by assumption) (by assumption) ?_ ?_ ?_ ?_ ?_ ?_ ?_ ?_ ?_) | (with_reducible refine' ev_fn (x := Str.ofString "_law_cells") (f := 136) (by assumption) (by assumption) ?_ ?_ ?_ ?_ ?_ ?_ ?_ ?_ ?_) | with_reducible exact ts_nil | (with_reducible refine' ts_one ?_) | ((with_reducible show nsIn _ _ _ = _); k_is) | ((with_reducible show plainGet _ _ _ = _); k_is) | ((with_reducible show hasDictIn _ _ = _); k_is) | ((with_reducible show findIn _ _ _ = _); k_is) | ((with_reducible show noGet _ _ = _); k_is) | ((with_reducible show Stores _ _); first | exact Or.inl rfl | exact Or.inr ⟨rfl, rfl⟩) | ((with_reducible show (_ == _) = false); decide) | ((with_reducible show behindInMarks _ _ = _); with_unfolding_all rfl) | ((with_reducible show _ ≤ _); decide) | ((with_reducible show _ = _); rfl) | ((with_reducible show ∀ _, _ = _); intro _; rfl) | ((with_reducible show ∀ _ _, _ = _); intro _ _; rfl) | ((with_reducible show ∀ _ _ _, _ = _); intro _ _ _; rfl) | (with_reducible refine' bt_val ?_ ?_))
          case u4 =>
            with_reducible refine' st_if ?v0 ?v1 ?v2
            case v0 => repeat' (first | with_reducible exact ev_int _ _ _ | with_reducible exact ev_str _ _ _ | with_reducible exact ev_none _ _ | with_reducible exact ev_bool _ _ _ | (with_reducible refine' ev_name _ _ ?_ ?_) | (with_reducible refine' ev_binop ?_ ?_) | (with_reducible refine' ev_neg ?_) | (with_reducible refine' ev_cmp ?_ ?_ ?_) | (with_reducible refine' ev_ifexp ?_ ?_ ?_) | (with_reducible refine' ev_list ?_) | (with_reducible refine' ev_tuple ?_) | with_reducible exact es_nil | (with_reducible refine' es_cons ?_ ?_ ?_) | (with_reducible refine' ev_cut ?_ ?_ ?_) | (with_reducible refine' ev_idx ?_ ?_ ?_) | with_reducible exact pt_none | (with_reducible refine' pt_some ?_) | (with_reducible refine' bt_cmp ?_ ?_ ?_) | (with_reducible refine' bt_not ?_) | (with_reducible refine' bt_bool ?_) | with_reducible exact at_and_nil | with_reducible exact at_or_nil | (with_reducible refine' at_and_cons ?_ ?_) | (with_reducible refine' at_or_cons ?_ ?_) | with_reducible exact xs_nil | (with_reducible refine' xs_cons ?_ ?_) | (with_reducible refine' st_assign ?_ ?_ ?_) | (with_reducible refine' st_aug ?_ ?_ ?_) | (with_reducible refine' st_if ?_ ?_ ?_) | (with_reducible refine' st_append ?_ ?_ ?_ ?_ ?_ ?_) | (with_reducible refine' st_augidx ?_ ?_ ?_ ?_) | (with_reducible refine' st_ret ?_) | with_reducible exact st_ret0 | with_reducible exact st_cont | with_reducible exact st_pass | (with_reducible refine' st_while ?_ ?_) | (with_reducible refine' st_for ?_ (as_name ?_) ?_ ?_ ?_) | (with_reducible refine' ev_len (by assumption) ?_ ?_ ?_ ?_ ?_ ?_ ?_ ?_) | (with_reducible refine' ev_chr (by assumption) ?_ ?_ ?_ ?_ ?_ ?_ ?_ ?_) | (with_reducible refine' ev_range (by assumption) ?_ ?_ ?_ ?_ ?_ ?_ ?_ ?_) | (with_reducible refine' ev_abs (by assumption) ?_ ?_ ?_ ?_ ?_ ?_ ?_ ?_) | (with_reducible refine' ev_count _ ?_ ?_ ?_ ?_ ?_) | (with_reducible refine' ev_split _ ?_ ?_ ?_ ?_ ?_) | (with_reducible refine' ev_index _ ?_ ?_ ?_ ?_) | (with_reducible refine' ev_attr (C := 113) (by assumption) ?_ ?_ ?_ ?_ ?_ ?_) | (with_reducible refine' st_forT ?_ (as_tuple3 (as_name ?_) (as_name ?_) (as_name ?_) ?_ ?_) ?_ ?_ ?_) | (rintro _ _ _ ⟨_, _, _, rfl, _⟩; exact ⟨_, rfl⟩) | (with_reducible refine' ev_max (by assumption) ?_ ?_ ?_ ?_ ?_ ?_ ?_ ?_) | (with_reducible refine' ev_sum (by assumption) ?_ ?_ ?_ ?_ ?_ ?_ ?_ ?_) | (with_reducible refine' ev_fn (x := Str.ofString "_law_written") (f := 124) (by assumption) (by assumption) ?_ ?_ ?_ ?_ ?_ ?_ ?_ ?_ ?_) | (with_reducible refine' ev_fn (x := Str.ofString "_law_read") (f := 131) (by assumption) (by assumption) ?_ ?_ ?_ ?_ ?_ ?_ ?_ ?_ ?_) | (with_reducible refine' ev_fn (x := Str.ofString "_law_cells") (f := 136) (by assumption) (by assumption) ?_ ?_ ?_ ?_ ?_ ?_ ?_ ?_ ?_) | with_reducible exact ts_nil | (with_reducible refine' ts_one ?_) | ((with_reducible show nsIn _ _ _ = _); k_is) | ((with_reducible show plainGet _ _ _ = _); k_is) | ((with_reducible show hasDictIn _ _ = _); k_is) | ((with_reducible show findIn _ _ _ = _); k_is) | ((with_reducible show noGet _ _ = _); k_is) | ((with_reducible show Stores _ _); first | exact Or.inl rfl | exact Or.inr ⟨rfl, rfl⟩) | ((with_reducible show (_ == _) = false); decide) | ((with_reducible show behindInMarks _ _ = _); with_unfolding_all rfl) | ((with_reducible show _ ≤ _); decide) | ((with_reducible show _ = _); rfl) | ((with_reducible show ∀ _, _ = _); intro _; rfl) | ((with_reducible show ∀ _ _, _ = _); intro _ _; rfl) | ((with_reducible show ∀ _ _ _, _ = _); intro _ _ _; rfl) | (with_reducible refine' bt_val ?_ ?_))
            case v1 => repeat' (first | with_reducible exact ev_int _ _ _ | with_reducible exact ev_str _ _ _ | with_reducible exact ev_none _ _ | with_reducible exact ev_bool _ _ _ | (with_reducible refine' ev_name _ _ ?_ ?_) | (with_reducible refine' ev_binop ?_ ?_) | (with_reducible refine' ev_neg ?_) | (with_reducible refine' ev_cmp ?_ ?_ ?_) | (with_reducible refine' ev_ifexp ?_ ?_ ?_) | (with_reducible refine' ev_list ?_) | (with_reducible refine' ev_tuple ?_) | with_reducible exact es_nil | (with_reducible refine' es_cons ?_ ?_ ?_) | (with_reducible refine' ev_cut ?_ ?_ ?_) | (with_reducible refine' ev_idx ?_ ?_ ?_) | with_reducible exact pt_none | (with_reducible refine' pt_some ?_) | (with_reducible refine' bt_cmp ?_ ?_ ?_) | (with_reducible refine' bt_not ?_) | (with_reducible refine' bt_bool ?_) | with_reducible exact at_and_nil | with_reducible exact at_or_nil | (with_reducible refine' at_and_cons ?_ ?_) | (with_reducible refine' at_or_cons ?_ ?_) | with_reducible exact xs_nil | (with_reducible refine' xs_cons ?_ ?_) | (with_reducible refine' st_assign ?_ ?_ ?_) | (with_reducible refine' st_aug ?_ ?_ ?_) | (with_reducible refine' st_if ?_ ?_ ?_) | (with_reducible refine' st_append ?_ ?_ ?_ ?_ ?_ ?_) | (with_reducible refine' st_augidx ?_ ?_ ?_ ?_) | (with_reducible refine' st_ret ?_) | with_reducible exact st_ret0 | with_reducible exact st_cont | with_reducible exact st_pass | (with_reducible refine' st_while ?_ ?_) | (with_reducible refine' st_for ?_ (as_name ?_) ?_ ?_ ?_) | (with_reducible refine' ev_len (by assumption) ?_ ?_ ?_ ?_ ?_ ?_ ?_ ?_) | (with_reducible refine' ev_chr (by assumption) ?_ ?_ ?_ ?_ ?_ ?_ ?_ ?_) | (with_reducible refine' ev_range (by assumption) ?_ ?_ ?_ ?_ ?_ ?_ ?_ ?_) | (with_reducible refine' ev_abs (by assumption) ?_ ?_ ?_ ?_ ?_ ?_ ?_ ?_) | (with_reducible refine' ev_count _ ?_ ?_ ?_ ?_ ?_) | (with_reducible refine' ev_split _ ?_ ?_ ?_ ?_ ?_) | (with_reducible refine' ev_index _ ?_ ?_ ?_ ?_) | (with_reducible refine' ev_attr (C := 113) (by assumption) ?_ ?_ ?_ ?_ ?_ ?_) | (with_reducible refine' st_forT ?_ (as_tuple3 (as_name ?_) (as_name ?_) (as_name ?_) ?_ ?_) ?_ ?_ ?_) | (rintro _ _ _ ⟨_, _, _, rfl, _⟩; exact ⟨_, rfl⟩) | (with_reducible refine' ev_max (by assumption) ?_ ?_ ?_ ?_ ?_ ?_ ?_ ?_) | (with_reducible refine' ev_sum (by assumption) ?_ ?_ ?_ ?_ ?_ ?_ ?_ ?_) | (with_reducible refine' ev_fn (x := Str.ofString "_law_written") (f := 124) (by assumption) (by assumption) ?_ ?_ ?_ ?_ ?_ ?_ ?_ ?_ ?_) | (with_reducible refine' ev_fn (x := Str.ofString "_law_read") (f := 131) (by assumption) (by assumption) ?_ ?_ ?_ ?_ ?_ ?_ ?_ ?_ ?_) | (with_reducible refine' ev_fn (x := Str.ofString "_law_cells") (f := 136) (by assumption) (by assumption) ?_ ?_ ?_ ?_ ?_ ?_ ?_ ?_ ?_) | with_reducible exact ts_nil | (with_reducible refine' ts_one ?_) | ((with_reducible show nsIn _ _ _ = _); k_is) | ((with_reducible show plainGet _ _ _ = _); k_is) | ((with_reducible show hasDictIn _ _ = _); k_is) | ((with_reducible show findIn _ _ _ = _); k_is) | ((with_reducible show noGet _ _ = _); k_is) | ((with_reducible show Stores _ _); first | exact Or.inl rfl | exact Or.inr ⟨rfl, rfl⟩) | ((with_reducible show (_ == _) = false); decide) | ((with_reducible show behindInMarks _ _ = _); with_unfolding_all rfl) | ((with_reducible show _ ≤ _); decide) | ((with_reducible show _ = _); rfl) | ((with_reducible show ∀ _, _ = _); intro _; rfl) | ((with_reducible show ∀ _ _, _ = _); intro _ _; rfl) | ((with_reducible show ∀ _ _ _, _ = _); intro _ _ _; rfl) | (with_reducible refine' bt_val ?_ ?_))
            case v2 =>
              with_reducible refine' xs_cons ?w0 ?w1
              case w0 => repeat' (first | with_reducible exact ev_int _ _ _ | with_reducible exact ev_str _ _ _ | with_reducible exact ev_none _ _ | with_reducible exact ev_bool _ _ _ | (with_reducible refine' ev_name _ _ ?_ ?_) | (with_reducible refine' ev_binop ?_ ?_) | (with_reducible refine' ev_neg ?_) | (with_reducible refine' ev_cmp ?_ ?_ ?_) | (with_reducible refine' ev_ifexp ?_ ?_ ?_) | (with_reducible refine' ev_list ?_) | (with_reducible refine' ev_tuple ?_) | with_reducible exact es_nil | (with_reducible refine' es_cons ?_ ?_ ?_) | (with_reducible refine' ev_cut ?_ ?_ ?_) | (with_reducible refine' ev_idx ?_ ?_ ?_) | with_reducible exact pt_none | (with_reducible refine' pt_some ?_) | (with_reducible refine' bt_cmp ?_ ?_ ?_) | (with_reducible refine' bt_not ?_) | (with_reducible refine' bt_bool ?_) | with_reducible exact at_and_nil | with_reducible exact at_or_nil | (with_reducible refine' at_and_cons ?_ ?_) | (with_reducible refine' at_or_cons ?_ ?_) | with_reducible exact xs_nil | (with_reducible refine' xs_cons ?_ ?_) | (with_reducible refine' st_assign ?_ ?_ ?_) | (with_reducible refine' st_aug ?_ ?_ ?_) | (with_reducible refine' st_if ?_ ?_ ?_) | (with_reducible refine' st_append ?_ ?_ ?_ ?_ ?_ ?_) | (with_reducible refine' st_augidx ?_ ?_ ?_ ?_) | (with_reducible refine' st_ret ?_) | with_reducible exact st_ret0 | with_reducible exact st_cont | with_reducible exact st_pass | (with_reducible refine' st_while ?_ ?_) | (with_reducible refine' st_for ?_ (as_name ?_) ?_ ?_ ?_) | (with_reducible refine' ev_len (by assumption) ?_ ?_ ?_ ?_ ?_ ?_ ?_ ?_) | (with_reducible refine' ev_chr (by assumption) ?_ ?_ ?_ ?_ ?_ ?_ ?_ ?_) | (with_reducible refine' ev_range (by assumption) ?_ ?_ ?_ ?_ ?_ ?_ ?_ ?_) | (with_reducible refine' ev_abs (by assumption) ?_ ?_ ?_ ?_ ?_ ?_ ?_ ?_) | (with_reducible refine' ev_count _ ?_ ?_ ?_ ?_ ?_) | (with_reducible refine' ev_split _ ?_ ?_ ?_ ?_ ?_) | (with_reducible refine' ev_index _ ?_ ?_ ?_ ?_) | (with_reducible refine' ev_attr (C := 113) (by assumption) ?_ ?_ ?_ ?_ ?_ ?_) | (with_reducible refine' st_forT ?_ (as_tuple3 (as_name ?_) (as_name ?_) (as_name ?_) ?_ ?_) ?_ ?_ ?_) | (rintro _ _ _ ⟨_, _, _, rfl, _⟩; exact ⟨_, rfl⟩) | (with_reducible refine' ev_max (by assumption) ?_ ?_ ?_ ?_ ?_ ?_ ?_ ?_) | (with_reducible refine' ev_sum (by assumption) ?_ ?_ ?_ ?_ ?_ ?_ ?_ ?_) | (with_reducible refine' ev_fn (x := Str.ofString "_law_written") (f := 124) (by assumption) (by assumption) ?_ ?_ ?_ ?_ ?_ ?_ ?_ ?_ ?_) | (with_reducible refine' ev_fn (x := Str.ofString "_law_read") (f := 131) (by assumption) (by assumption) ?_ ?_ ?_ ?_ ?_ ?_ ?_ ?_ ?_) | (with_reducible refine' ev_fn (x := Str.ofString "_law_cells") (f := 136) (by assumption) (by assumption) ?_ ?_ ?_ ?_ ?_ ?_ ?_ ?_ ?_) | with_reducible exact ts_nil | (with_reducible refine' ts_one ?_) | ((with_reducible show nsIn _ _ _ = _); k_is) | ((with_reducible show plainGet _ _ _ = _); k_is) | ((with_reducible show hasDictIn _ _ = _); k_is) | ((with_reducible show findIn _ _ _ = _); k_is) | ((with_reducible show noGet _ _ = _); k_is) | ((with_reducible show Stores _ _); first | exact Or.inl rfl | exact Or.inr ⟨rfl, rfl⟩) | ((with_reducible show (_ == _) = false); decide) | ((with_reducible show behindInMarks _ _ = _); with_unfolding_all rfl) | ((with_reducible show _ ≤ _); decide) | ((with_reducible show _ = _); rfl) | ((with_reducible show ∀ _, _ = _); intro _; rfl) | ((with_reducible show ∀ _ _, _ = _); intro _ _; rfl) | ((with_reducible show ∀ _ _ _, _ = _); intro _ _ _; rfl) | (with_reducible refine' bt_val ?_ ?_))
              case w1 =>
              with_reducible refine' xs_cons ?x0 ?w2
              case x0 =>
                refine' st_assign_comp (caps := ["lines", "sides"]) ?hiA ?hclosA ?cpA ?hcellA ?hnamesA ?haA ?htA ?heA ?hstA ?hswA ?htgA ?hsA
                case hstA => exact Or.inl rfl
                case hswA => rfl
                case hclosA => rfl
                case cpA => exact ⟨fun p hp => by (simp only [List.mem_cons, List.not_mem_nil, or_false] at hp; rcases hp with rfl | rfl <;> first | exact List.mem_cons_self | exact List.mem_cons_of_mem _ List.mem_cons_self | exact List.mem_cons_of_mem _ (List.mem_cons_of_mem _ List.mem_cons_self) | exact List.mem_cons_of_mem _ (List.mem_cons_of_mem _ (List.mem_cons_of_mem _ List.mem_cons_self))), by first | decide | simp, rfl, fun C y hy => by (simp only [List.mem_cons, List.not_mem_nil, or_false] at hy; rcases hy with rfl | rfl <;> exact ⟨by first | exact Or.inl rfl | exact Or.inr rfl, rfl, by intro h; cases h⟩)⟩
                case hcellA => decide
                case hnamesA => decide
                case htgA => intro _ _; rfl
                case hsA => intro _; rfl
                case haA => exact fun C => ac_name rfl
                case hiA => repeat' (first | with_reducible exact ev_int _ _ _ | with_reducible exact ev_str _ _ _ | with_reducible exact ev_none _ _ | with_reducible exact ev_bool _ _ _ | (with_reducible refine' ev_name _ _ ?_ ?_) | (with_reducible refine' ev_binop ?_ ?_) | (with_reducible refine' ev_neg ?_) | (with_reducible refine' ev_cmp ?_ ?_ ?_) | (with_reducible refine' ev_ifexp ?_ ?_ ?_) | (with_reducible refine' ev_list ?_) | (with_reducible refine' ev_tuple ?_) | with_reducible exact es_nil | (with_reducible refine' es_cons ?_ ?_ ?_) | (with_reducible refine' ev_cut ?_ ?_ ?_) | (with_reducible refine' ev_idx ?_ ?_ ?_) | with_reducible exact pt_none | (with_reducible refine' pt_some ?_) | (with_reducible refine' bt_cmp ?_ ?_ ?_) | (with_reducible refine' bt_not ?_) | (with_reducible refine' bt_bool ?_) | with_reducible exact at_and_nil | with_reducible exact at_or_nil | (with_reducible refine' at_and_cons ?_ ?_) | (with_reducible refine' at_or_cons ?_ ?_) | with_reducible exact xs_nil | (with_reducible refine' xs_cons ?_ ?_) | (with_reducible refine' st_assign ?_ ?_ ?_) | (with_reducible refine' st_aug ?_ ?_ ?_) | (with_reducible refine' st_if ?_ ?_ ?_) | (with_reducible refine' st_append ?_ ?_ ?_ ?_ ?_ ?_) | (with_reducible refine' st_augidx ?_ ?_ ?_ ?_) | (with_reducible refine' st_ret ?_) | with_reducible exact st_ret0 | with_reducible exact st_cont | with_reducible exact st_pass | (with_reducible refine' st_while ?_ ?_) | (with_reducible refine' st_for ?_ (as_name ?_) ?_ ?_ ?_) | (with_reducible refine' ev_len (by assumption) ?_ ?_ ?_ ?_ ?_ ?_ ?_ ?_) | (with_reducible refine' ev_chr (by assumption) ?_ ?_ ?_ ?_ ?_ ?_ ?_ ?_) | (with_reducible refine' ev_range (by assumption) ?_ ?_ ?_ ?_ ?_ ?_ ?_ ?_) | (with_reducible refine' ev_abs (by assumption) ?_ ?_ ?_ ?_ ?_ ?_ ?_ ?_) | (with_reducible refine' ev_count _ ?_ ?_ ?_ ?_ ?_) | (with_reducible refine' ev_split _ ?_ ?_ ?_ ?_ ?_) | (with_reducible refine' ev_index _ ?_ ?_ ?_ ?_) | (with_reducible refine' ev_attr (C := 113) (by assumption) ?_ ?_ ?_ ?_ ?_ ?_) | (with_reducible refine' st_forT ?_ (as_tuple3 (as_name ?_) (as_name ?_) (as_name ?_) ?_ ?_) ?_ ?_ ?_) | (rintro _ _ _ ⟨_, _, _, rfl, _⟩; exact ⟨_, rfl⟩) | (with_reducible refine' ev_max (by assumption) ?_ ?_ ?_ ?_ ?_ ?_ ?_ ?_) | (with_reducible refine' ev_sum (by assumption) ?_ ?_ ?_ ?_ ?_ ?_ ?_ ?_) | (with_reducible refine' ev_fn (x := Str.ofString "_law_written") (f := 124) (by assumption) (by assumption) ?_ ?_ ?_ ?_ ?_ ?_ ?_ ?_ ?_) | (with_reducible refine' ev_fn (x := Str.ofString "_law_read") (f := 131) (by assumption) (by assumption) ?_ ?_ ?_ ?_ ?_ ?_ ?_ ?_ ?_) | (with_reducible refine' ev_fn (x := Str.ofString "_law_cells") (f := 136) (by assumption) (by assumption) ?_ ?_ ?_ ?_ ?_ ?_ ?_ ?_ ?_) | with_reducible exact ts_nil | (with_reducible refine' ts_one ?_) | ((with_reducible show nsIn _ _ _ = _); k_is) | ((with_reducible show plainGet _ _ _ = _); k_is) | ((with_reducible show hasDictIn _ _ = _); k_is) | ((with_reducible show findIn _ _ _ = _); k_is) | ((with_reducible show noGet _ _ = _); k_is) | ((with_reducible show Stores _ _); first | exact Or.inl rfl | exact Or.inr ⟨rfl, rfl⟩) | ((with_reducible show (_ == _) = false); decide) | ((with_reducible show behindInMarks _ _ = _); with_unfolding_all rfl) | ((with_reducible show _ ≤ _); decide) | ((with_reducible show _ = _); rfl) | ((with_reducible show ∀ _, _ = _); intro _; rfl) | ((with_reducible show ∀ _ _, _ = _); intro _ _; rfl) | ((with_reducible show ∀ _ _ _, _ = _); intro _ _ _; rfl) | (with_reducible refine' bt_val ?_ ?_))
                case htA => intro C; repeat' (first | with_reducible exact ev_int _ _ _ | with_reducible exact ev_str _ _ _ | with_reducible exact ev_none _ _ | with_reducible exact ev_bool _ _ _ | (with_reducible refine' ev_name _ _ ?_ ?_) | (with_reducible refine' ev_binop ?_ ?_) | (with_reducible refine' ev_neg ?_) | (with_reducible refine' ev_cmp ?_ ?_ ?_) | (with_reducible refine' ev_ifexp ?_ ?_ ?_) | (with_reducible refine' ev_list ?_) | (with_reducible refine' ev_tuple ?_) | with_reducible exact es_nil | (with_reducible refine' es_cons ?_ ?_ ?_) | (with_reducible refine' ev_cut ?_ ?_ ?_) | (with_reducible refine' ev_idx ?_ ?_ ?_) | with_reducible exact pt_none | (with_reducible refine' pt_some ?_) | (with_reducible refine' bt_cmp ?_ ?_ ?_) | (with_reducible refine' bt_not ?_) | (with_reducible refine' bt_bool ?_) | with_reducible exact at_and_nil | with_reducible exact at_or_nil | (with_reducible refine' at_and_cons ?_ ?_) | (with_reducible refine' at_or_cons ?_ ?_) | with_reducible exact xs_nil | (with_reducible refine' xs_cons ?_ ?_) | (with_reducible refine' st_assign ?_ ?_ ?_) | (with_reducible refine' st_aug ?_ ?_ ?_) | (with_reducible refine' st_if ?_ ?_ ?_) | (with_reducible refine' st_append ?_ ?_ ?_ ?_ ?_ ?_) | (with_reducible refine' st_augidx ?_ ?_ ?_ ?_) | (with_reducible refine' st_ret ?_) | with_reducible exact st_ret0 | with_reducible exact st_cont | with_reducible exact st_pass | (with_reducible refine' st_while ?_ ?_) | (with_reducible refine' st_for ?_ (as_name ?_) ?_ ?_ ?_) | (with_reducible refine' ev_len (by assumption) ?_ ?_ ?_ ?_ ?_ ?_ ?_ ?_) | (with_reducible refine' ev_chr (by assumption) ?_ ?_ ?_ ?_ ?_ ?_ ?_ ?_) | (with_reducible refine' ev_range (by assumption) ?_ ?_ ?_ ?_ ?_ ?_ ?_ ?_) | (with_reducible refine' ev_abs (by assumption) ?_ ?_ ?_ ?_ ?_ ?_ ?_ ?_) | (with_reducible refine' ev_count _ ?_ ?_ ?_ ?_ ?_) | (with_reducible refine' ev_split _ ?_ ?_ ?_ ?_ ?_) | (with_reducible refine' ev_index _ ?_ ?_ ?_ ?_) | (with_reducible refine' ev_attr (C := 113) (by assumption) ?_ ?_ ?_ ?_ ?_ ?_) | (with_reducible refine' st_forT ?_ (as_tuple3 (as_name ?_) (as_name ?_) (as_name ?_) ?_ ?_) ?_ ?_ ?_) | (rintro _ _ _ ⟨_, _, _, rfl, _⟩; exact ⟨_, rfl⟩) | (with_reducible refine' ev_max (by assumption) ?_ ?_ ?_ ?_ ?_ ?_ ?_ ?_) | (with_reducible refine' ev_sum (by assumption) ?_ ?_ ?_ ?_ ?_ ?_ ?_ ?_) | (with_reducible refine' ev_fn (x := Str.ofString "_law_written") (f := 124) (by assumption) (by assumption) ?_ ?_ ?_ ?_ ?_ ?_ ?_ ?_ ?_) | (with_reducible refine' ev_fn (x := Str.ofString "_law_read") (f := 131) (by assumption) (by assumption) ?_ ?_ ?_ ?_ ?_ ?_ ?_ ?_ ?_) | (with_reducible refine' ev_fn (x := Str.ofString "_law_cells") (f := 136) (by assumption) (by assumption) ?_ ?_ ?_ ?_ ?_ ?_ ?_ ?_ ?_) | with_reducible exact ts_nil | (with_reducible refine' ts_one ?_) | ((with_reducible show nsIn _ _ _ = _); k_is) | ((with_reducible show plainGet _ _ _ = _); k_is) | ((with_reducible show hasDictIn _ _ = _); k_is) | ((with_reducible show findIn _ _ _ = _); k_is) | ((with_reducible show noGet _ _ = _); k_is) | ((with_reducible show Stores _ _); first | exact Or.inl rfl | exact Or.inr ⟨rfl, rfl⟩) | ((with_reducible show (_ == _) = false); decide) | ((with_reducible show behindInMarks _ _ = _); with_unfolding_all rfl) | ((with_reducible show _ ≤ _); decide) | ((with_reducible show _ = _); rfl) | ((with_reducible show ∀ _, _ = _); intro _; rfl) | ((with_reducible show ∀ _ _, _ = _); intro _ _; rfl) | ((with_reducible show ∀ _ _ _, _ = _); intro _ _ _; rfl) | (with_reducible refine' bt_val ?_ ?_))
                case heA => intro C; repeat' (first | with_reducible exact ev_int _ _ _ | with_reducible exact ev_str _ _ _ | with_reducible exact ev_none _ _ | with_reducible exact ev_bool _ _ _ | (with_reducible refine' ev_name _ _ ?_ ?_) | (with_reducible refine' ev_binop ?_ ?_) | (with_reducible refine' ev_neg ?_) | (with_reducible refine' ev_cmp ?_ ?_ ?_) | (with_reducible refine' ev_ifexp ?_ ?_ ?_) | (with_reducible refine' ev_list ?_) | (with_reducible refine' ev_tuple ?_) | with_reducible exact es_nil | (with_reducible refine' es_cons ?_ ?_ ?_) | (with_reducible refine' ev_cut ?_ ?_ ?_) | (with_reducible refine' ev_idx ?_ ?_ ?_) | with_reducible exact pt_none | (with_reducible refine' pt_some ?_) | (with_reducible refine' bt_cmp ?_ ?_ ?_) | (with_reducible refine' bt_not ?_) | (with_reducible refine' bt_bool ?_) | with_reducible exact at_and_nil | with_reducible exact at_or_nil | (with_reducible refine' at_and_cons ?_ ?_) | (with_reducible refine' at_or_cons ?_ ?_) | with_reducible exact xs_nil | (with_reducible refine' xs_cons ?_ ?_) | (with_reducible refine' st_assign ?_ ?_ ?_) | (with_reducible refine' st_aug ?_ ?_ ?_) | (with_reducible refine' st_if ?_ ?_ ?_) | (with_reducible refine' st_append ?_ ?_ ?_ ?_ ?_ ?_) | (with_reducible refine' st_augidx ?_ ?_ ?_ ?_) | (with_reducible refine' st_ret ?_) | with_reducible exact st_ret0 | with_reducible exact st_cont | with_reducible exact st_pass | (with_reducible refine' st_while ?_ ?_) | (with_reducible refine' st_for ?_ (as_name ?_) ?_ ?_ ?_) | (with_reducible refine' ev_len (by assumption) ?_ ?_ ?_ ?_ ?_ ?_ ?_ ?_) | (with_reducible refine' ev_chr (by assumption) ?_ ?_ ?_ ?_ ?_ ?_ ?_ ?_) | (with_reducible refine' ev_range (by assumption) ?_ ?_ ?_ ?_ ?_ ?_ ?_ ?_) | (with_reducible refine' ev_abs (by assumption) ?_ ?_ ?_ ?_ ?_ ?_ ?_ ?_) | (with_reducible refine' ev_count _ ?_ ?_ ?_ ?_ ?_) | (with_reducible refine' ev_split _ ?_ ?_ ?_ ?_ ?_) | (with_reducible refine' ev_index _ ?_ ?_ ?_ ?_) | (with_reducible refine' ev_attr (C := 113) (by assumption) ?_ ?_ ?_ ?_ ?_ ?_) | (with_reducible refine' st_forT ?_ (as_tuple3 (as_name ?_) (as_name ?_) (as_name ?_) ?_ ?_) ?_ ?_ ?_) | (rintro _ _ _ ⟨_, _, _, rfl, _⟩; exact ⟨_, rfl⟩) | (with_reducible refine' ev_max (by assumption) ?_ ?_ ?_ ?_ ?_ ?_ ?_ ?_) | (with_reducible refine' ev_sum (by assumption) ?_ ?_ ?_ ?_ ?_ ?_ ?_ ?_) | (with_reducible refine' ev_fn (x := Str.ofString "_law_written") (f := 124) (by assumption) (by assumption) ?_ ?_ ?_ ?_ ?_ ?_ ?_ ?_ ?_) | (with_reducible refine' ev_fn (x := Str.ofString "_law_read") (f := 131) (by assumption) (by assumption) ?_ ?_ ?_ ?_ ?_ ?_ ?_ ?_ ?_) | (with_reducible refine' ev_fn (x := Str.ofString "_law_cells") (f := 136) (by assumption) (by assumption) ?_ ?_ ?_ ?_ ?_ ?_ ?_ ?_ ?_) | with_reducible exact ts_nil | (with_reducible refine' ts_one ?_) | ((with_reducible show nsIn _ _ _ = _); k_is) | ((with_reducible show plainGet _ _ _ = _); k_is) | ((with_reducible show hasDictIn _ _ = _); k_is) | ((with_reducible show findIn _ _ _ = _); k_is) | ((with_reducible show noGet _ _ = _); k_is) | ((with_reducible show Stores _ _); first | exact Or.inl rfl | exact Or.inr ⟨rfl, rfl⟩) | ((with_reducible show (_ == _) = false); decide) | ((with_reducible show behindInMarks _ _ = _); with_unfolding_all rfl) | ((with_reducible show _ ≤ _); decide) | ((with_reducible show _ = _); rfl) | ((with_reducible show ∀ _, _ = _); intro _; rfl) | ((with_reducible show ∀ _ _, _ = _); intro _ _; rfl) | ((with_reducible show ∀ _ _ _, _ = _); intro _ _ _; rfl) | (with_reducible refine' bt_val ?_ ?_))
              case w2 =>
              with_reducible refine' xs_cons ?w3 ?w4
              case w3 => repeat' (first | with_reducible exact ev_int _ _ _ | with_reducible exact ev_str _ _ _ | with_reducible exact ev_none _ _ | with_reducible exact ev_bool _ _ _ | (with_reducible refine' ev_name _ _ ?_ ?_) | (with_reducible refine' ev_binop ?_ ?_) | (with_reducible refine' ev_neg ?_) | (with_reducible refine' ev_cmp ?_ ?_ ?_) | (with_reducible refine' ev_ifexp ?_ ?_ ?_) | (with_reducible refine' ev_list ?_) | (with_reducible refine' ev_tuple ?_) | with_reducible exact es_nil | (with_reducible refine' es_cons ?_ ?_ ?_) | (with_reducible refine' ev_cut ?_ ?_ ?_) | (with_reducible refine' ev_idx ?_ ?_ ?_) | with_reducible exact pt_none | (with_reducible refine' pt_some ?_) | (with_reducible refine' bt_cmp ?_ ?_ ?_) | (with_reducible refine' bt_not ?_) | (with_reducible refine' bt_bool ?_) | with_reducible exact at_and_nil | with_reducible exact at_or_nil | (with_reducible refine' at_and_cons ?_ ?_) | (with_reducible refine' at_or_cons ?_ ?_) | with_reducible exact xs_nil | (with_reducible refine' xs_cons ?_ ?_) | (with_reducible refine' st_assign ?_ ?_ ?_) | (with_reducible refine' st_aug ?_ ?_ ?_) | (with_reducible refine' st_if ?_ ?_ ?_) | (with_reducible refine' st_append ?_ ?_ ?_ ?_ ?_ ?_) | (with_reducible refine' st_augidx ?_ ?_ ?_ ?_) | (with_reducible refine' st_ret ?_) | with_reducible exact st_ret0 | with_reducible exact st_cont | with_reducible exact st_pass | (with_reducible refine' st_while ?_ ?_) | (with_reducible refine' st_for ?_ (as_name ?_) ?_ ?_ ?_) | (with_reducible refine' ev_len (by assumption) ?_ ?_ ?_ ?_ ?_ ?_ ?_ ?_) | (with_reducible refine' ev_chr (by assumption) ?_ ?_ ?_ ?_ ?_ ?_ ?_ ?_) | (with_reducible refine' ev_range (by assumption) ?_ ?_ ?_ ?_ ?_ ?_ ?_ ?_) | (with_reducible refine' ev_abs (by assumption) ?_ ?_ ?_ ?_ ?_ ?_ ?_ ?_) | (with_reducible refine' ev_count _ ?_ ?_ ?_ ?_ ?_) | (with_reducible refine' ev_split _ ?_ ?_ ?_ ?_ ?_) | (with_reducible refine' ev_index _ ?_ ?_ ?_ ?_) | (with_reducible refine' ev_attr (C := 113) (by assumption) ?_ ?_ ?_ ?_ ?_ ?_) | (with_reducible refine' st_forT ?_ (as_tuple3 (as_name ?_) (as_name ?_) (as_name ?_) ?_ ?_) ?_ ?_ ?_) | (rintro _ _ _ ⟨_, _, _, rfl, _⟩; exact ⟨_, rfl⟩) | (with_reducible refine' ev_max (by assumption) ?_ ?_ ?_ ?_ ?_ ?_ ?_ ?_) | (with_reducible refine' ev_sum (by assumption) ?_ ?_ ?_ ?_ ?_ ?_ ?_ ?_) | (with_reducible refine' ev_fn (x := Str.ofString "_law_written") (f := 124) (by assumption) (by assumption) ?_ ?_ ?_ ?_ ?_ ?_ ?_ ?_ ?_) | (with_reducible refine' ev_fn (x := Str.ofString "_law_read") (f := 131) (by assumption) (by assumption) ?_ ?_ ?_ ?_ ?_ ?_ ?_ ?_ ?_) | (with_reducible refine' ev_fn (x := Str.ofString "_law_cells") (f := 136) (by assumption) (by assumption) ?_ ?_ ?_ ?_ ?_ ?_ ?_ ?_ ?_) | with_reducible exact ts_nil | (with_reducible refine' ts_one ?_) | ((with_reducible show nsIn _ _ _ = _); k_is) | ((with_reducible show plainGet _ _ _ = _); k_is) | ((with_reducible show hasDictIn _ _ = _); k_is) | ((with_reducible show findIn _ _ _ = _); k_is) | ((with_reducible show noGet _ _ = _); k_is) | ((with_reducible show Stores _ _); first | exact Or.inl rfl | exact Or.inr ⟨rfl, rfl⟩) | ((with_reducible show (_ == _) = false); decide) | ((with_reducible show behindInMarks _ _ = _); with_unfolding_all rfl) | ((with_reducible show _ ≤ _); decide) | ((with_reducible show _ = _); rfl) | ((with_reducible show ∀ _, _ = _); intro _; rfl) | ((with_reducible show ∀ _ _, _ = _); intro _ _; rfl) | ((with_reducible show ∀ _ _ _, _ = _); intro _ _ _; rfl) | (with_reducible refine' bt_val ?_ ?_))
              case w4 =>
              with_reducible refine' xs_cons ?y0 ?w5
              case y0 =>
                refine' st_assign_comp (caps := ["lines", "sides", "wrap"]) ?hiB ?hclosB ?cpB ?hcellB ?hnamesB ?haB ?htB ?heB ?hstB ?hswB ?htgB ?hsB
                case hstB => exact Or.inl rfl
                case hswB => rfl
                case hclosB => rfl
                case cpB => exact ⟨fun p hp => by (simp only [List.mem_cons, List.not_mem_nil, or_false] at hp; rcases hp with rfl | rfl | rfl <;> first | exact List.mem_cons_self | exact List.mem_cons_of_mem _ List.mem_cons_self | exact List.mem_cons_of_mem _ (List.mem_cons_of_mem _ List.mem_cons_self) | exact List.mem_cons_of_mem _ (List.mem_cons_of_mem _ (List.mem_cons_of_mem _ List.mem_cons_self))), by first | decide | (simp; done) | (simp; (first | lia | omega)), rfl, fun C y hy => by (simp only [List.mem_cons, List.not_mem_nil, or_false] at hy; rcases hy with rfl | rfl | rfl <;> exact ⟨by first | exact Or.inl rfl | exact Or.inr rfl, rfl, by intro h; cases h⟩)⟩
                case hcellB => decide
                case hnamesB => decide
                case htgB => intro _ _; rfl
                case hsB => intro _; rfl
                case haB => exact fun C => ac_name rfl
                case hiB => repeat' (first | with_reducible exact ev_int _ _ _ | with_reducible exact ev_str _ _ _ | with_reducible exact ev_none _ _ | with_reducible exact ev_bool _ _ _ | (with_reducible refine' ev_name _ _ ?_ ?_) | (with_reducible refine' ev_binop ?_ ?_) | (with_reducible refine' ev_neg ?_) | (with_reducible refine' ev_cmp ?_ ?_ ?_) | (with_reducible refine' ev_ifexp ?_ ?_ ?_) | (with_reducible refine' ev_list ?_) | (with_reducible refine' ev_tuple ?_) | with_reducible exact es_nil | (with_reducible refine' es_cons ?_ ?_ ?_) | (with_reducible refine' ev_cut ?_ ?_ ?_) | (with_reducible refine' ev_idx ?_ ?_ ?_) | with_reducible exact pt_none | (with_reducible refine' pt_some ?_) | (with_reducible refine' bt_cmp ?_ ?_ ?_) | (with_reducible refine' bt_not ?_) | (with_reducible refine' bt_bool ?_) | with_reducible exact at_and_nil | with_reducible exact at_or_nil | (with_reducible refine' at_and_cons ?_ ?_) | (with_reducible refine' at_or_cons ?_ ?_) | with_reducible exact xs_nil | (with_reducible refine' xs_cons ?_ ?_) | (with_reducible refine' st_assign ?_ ?_ ?_) | (with_reducible refine' st_aug ?_ ?_ ?_) | (with_reducible refine' st_if ?_ ?_ ?_) | (with_reducible refine' st_append ?_ ?_ ?_ ?_ ?_ ?_) | (with_reducible refine' st_augidx ?_ ?_ ?_ ?_) | (with_reducible refine' st_ret ?_) | with_reducible exact st_ret0 | with_reducible exact st_cont | with_reducible exact st_pass | (with_reducible refine' st_while ?_ ?_) | (with_reducible refine' st_for ?_ (as_name ?_) ?_ ?_ ?_) | (with_reducible refine' ev_len (by assumption) ?_ ?_ ?_ ?_ ?_ ?_ ?_ ?_) | (with_reducible refine' ev_chr (by assumption) ?_ ?_ ?_ ?_ ?_ ?_ ?_ ?_) | (with_reducible refine' ev_range (by assumption) ?_ ?_ ?_ ?_ ?_ ?_ ?_ ?_) | (with_reducible refine' ev_abs (by assumption) ?_ ?_ ?_ ?_ ?_ ?_ ?_ ?_) | (with_reducible refine' ev_count _ ?_ ?_ ?_ ?_ ?_) | (with_reducible refine' ev_split _ ?_ ?_ ?_ ?_ ?_) | (with_reducible refine' ev_index _ ?_ ?_ ?_ ?_) | (with_reducible refine' ev_attr (C := 113) (by assumption) ?_ ?_ ?_ ?_ ?_ ?_) | (with_reducible refine' st_forT ?_ (as_tuple3 (as_name ?_) (as_name ?_) (as_name ?_) ?_ ?_) ?_ ?_ ?_) | (rintro _ _ _ ⟨_, _, _, rfl, _⟩; exact ⟨_, rfl⟩) | (with_reducible refine' ev_max (by assumption) ?_ ?_ ?_ ?_ ?_ ?_ ?_ ?_) | (with_reducible refine' ev_sum (by assumption) ?_ ?_ ?_ ?_ ?_ ?_ ?_ ?_) | (with_reducible refine' ev_fn (x := Str.ofString "_law_written") (f := 124) (by assumption) (by assumption) ?_ ?_ ?_ ?_ ?_ ?_ ?_ ?_ ?_) | (with_reducible refine' ev_fn (x := Str.ofString "_law_read") (f := 131) (by assumption) (by assumption) ?_ ?_ ?_ ?_ ?_ ?_ ?_ ?_ ?_) | (with_reducible refine' ev_fn (x := Str.ofString "_law_cells") (f := 136) (by assumption) (by assumption) ?_ ?_ ?_ ?_ ?_ ?_ ?_ ?_ ?_) | with_reducible exact ts_nil | (with_reducible refine' ts_one ?_) | ((with_reducible show nsIn _ _ _ = _); k_is) | ((with_reducible show plainGet _ _ _ = _); k_is) | ((with_reducible show hasDictIn _ _ = _); k_is) | ((with_reducible show findIn _ _ _ = _); k_is) | ((with_reducible show noGet _ _ = _); k_is) | ((with_reducible show Stores _ _); first | exact Or.inl rfl | exact Or.inr ⟨rfl, rfl⟩) | ((with_reducible show (_ == _) = false); decide) | ((with_reducible show behindInMarks _ _ = _); with_unfolding_all rfl) | ((with_reducible show _ ≤ _); decide) | ((with_reducible show _ = _); rfl) | ((with_reducible show ∀ _, _ = _); intro _; rfl) | ((with_reducible show ∀ _ _, _ = _); intro _ _; rfl) | ((with_reducible show ∀ _ _ _, _ = _); intro _ _ _; rfl) | (with_reducible refine' bt_val ?_ ?_))
                case htB => intro C; repeat' (first | with_reducible exact ev_int _ _ _ | with_reducible exact ev_str _ _ _ | with_reducible exact ev_none _ _ | with_reducible exact ev_bool _ _ _ | (with_reducible refine' ev_name _ _ ?_ ?_) | (with_reducible refine' ev_binop ?_ ?_) | (with_reducible refine' ev_neg ?_) | (with_reducible refine' ev_cmp ?_ ?_ ?_) | (with_reducible refine' ev_ifexp ?_ ?_ ?_) | (with_reducible refine' ev_list ?_) | (with_reducible refine' ev_tuple ?_) | with_reducible exact es_nil | (with_reducible refine' es_cons ?_ ?_ ?_) | (with_reducible refine' ev_cut ?_ ?_ ?_) | (with_reducible refine' ev_idx ?_ ?_ ?_) | with_reducible exact pt_none | (with_reducible refine' pt_some ?_) | (with_reducible refine' bt_cmp ?_ ?_ ?_) | (with_reducible refine' bt_not ?_) | (with_reducible refine' bt_bool ?_) | with_reducible exact at_and_nil | with_reducible exact at_or_nil | (with_reducible refine' at_and_cons ?_ ?_) | (with_reducible refine' at_or_cons ?_ ?_) | with_reducible exact xs_nil | (with_reducible refine' xs_cons ?_ ?_) | (with_reducible refine' st_assign ?_ ?_ ?_) | (with_reducible refine' st_aug ?_ ?_ ?_) | (with_reducible refine' st_if ?_ ?_ ?_) | (with_reducible refine' st_append ?_ ?_ ?_ ?_ ?_ ?_) | (with_reducible refine' st_augidx ?_ ?_ ?_ ?_) | (with_reducible refine' st_ret ?_) | with_reducible exact st_ret0 | with_reducible exact st_cont | with_reducible exact st_pass | (with_reducible refine' st_while ?_ ?_) | (with_reducible refine' st_for ?_ (as_name ?_) ?_ ?_ ?_) | (with_reducible refine' ev_len (by assumption) ?_ ?_ ?_ ?_ ?_ ?_ ?_ ?_) | (with_reducible refine' ev_chr (by assumption) ?_ ?_ ?_ ?_ ?_ ?_ ?_ ?_) | (with_reducible refine' ev_range (by assumption) ?_ ?_ ?_ ?_ ?_ ?_ ?_ ?_) | (with_reducible refine' ev_abs (by assumption) ?_ ?_ ?_ ?_ ?_ ?_ ?_ ?_) | (with_reducible refine' ev_count _ ?_ ?_ ?_ ?_ ?_) | (with_reducible refine' ev_split _ ?_ ?_ ?_ ?_ ?_) | (with_reducible refine' ev_index _ ?_ ?_ ?_ ?_) | (with_reducible refine' ev_attr (C := 113) (by assumption) ?_ ?_ ?_ ?_ ?_ ?_) | (with_reducible refine' st_forT ?_ (as_tuple3 (as_name ?_) (as_name ?_) (as_name ?_) ?_ ?_) ?_ ?_ ?_) | (rintro _ _ _ ⟨_, _, _, rfl, _⟩; exact ⟨_, rfl⟩) | (with_reducible refine' ev_max (by assumption) ?_ ?_ ?_ ?_ ?_ ?_ ?_ ?_) | (with_reducible refine' ev_sum (by assumption) ?_ ?_ ?_ ?_ ?_ ?_ ?_ ?_) | (with_reducible refine' ev_fn (x := Str.ofString "_law_written") (f := 124) (by assumption) (by assumption) ?_ ?_ ?_ ?_ ?_ ?_ ?_ ?_ ?_) | (with_reducible refine' ev_fn (x := Str.ofString "_law_read") (f := 131) (by assumption) (by assumption) ?_ ?_ ?_ ?_ ?_ ?_ ?_ ?_ ?_) | (with_reducible refine' ev_fn (x := Str.ofString "_law_cells") (f := 136) (by assumption) (by assumption) ?_ ?_ ?_ ?_ ?_ ?_ ?_ ?_ ?_) | with_reducible exact ts_nil | (with_reducible refine' ts_one ?_) | ((with_reducible show nsIn _ _ _ = _); k_is) | ((with_reducible show plainGet _ _ _ = _); k_is) | ((with_reducible show hasDictIn _ _ = _); k_is) | ((with_reducible show findIn _ _ _ = _); k_is) | ((with_reducible show noGet _ _ = _); k_is) | ((with_reducible show Stores _ _); first | exact Or.inl rfl | exact Or.inr ⟨rfl, rfl⟩) | ((with_reducible show (_ == _) = false); decide) | ((with_reducible show behindInMarks _ _ = _); with_unfolding_all rfl) | ((with_reducible show _ ≤ _); decide) | ((with_reducible show _ = _); rfl) | ((with_reducible show ∀ _, _ = _); intro _; rfl) | ((with_reducible show ∀ _ _, _ = _); intro _ _; rfl) | ((with_reducible show ∀ _ _ _, _ = _); intro _ _ _; rfl) | (with_reducible refine' bt_val ?_ ?_))
                case heB => intro C; repeat' (first | with_reducible exact ev_int _ _ _ | with_reducible exact ev_str _ _ _ | with_reducible exact ev_none _ _ | with_reducible exact ev_bool _ _ _ | (with_reducible refine' ev_name _ _ ?_ ?_) | (with_reducible refine' ev_binop ?_ ?_) | (with_reducible refine' ev_neg ?_) | (with_reducible refine' ev_cmp ?_ ?_ ?_) | (with_reducible refine' ev_ifexp ?_ ?_ ?_) | (with_reducible refine' ev_list ?_) | (with_reducible refine' ev_tuple ?_) | with_reducible exact es_nil | (with_reducible refine' es_cons ?_ ?_ ?_) | (with_reducible refine' ev_cut ?_ ?_ ?_) | (with_reducible refine' ev_idx ?_ ?_ ?_) | with_reducible exact pt_none | (with_reducible refine' pt_some ?_) | (with_reducible refine' bt_cmp ?_ ?_ ?_) | (with_reducible refine' bt_not ?_) | (with_reducible refine' bt_bool ?_) | with_reducible exact at_and_nil | with_reducible exact at_or_nil | (with_reducible refine' at_and_cons ?_ ?_) | (with_reducible refine' at_or_cons ?_ ?_) | with_reducible exact xs_nil | (with_reducible refine' xs_cons ?_ ?_) | (with_reducible refine' st_assign ?_ ?_ ?_) | (with_reducible refine' st_aug ?_ ?_ ?_) | (with_reducible refine' st_if ?_ ?_ ?_) | (with_reducible refine' st_append ?_ ?_ ?_ ?_ ?_ ?_) | (with_reducible refine' st_augidx ?_ ?_ ?_ ?_) | (with_reducible refine' st_ret ?_) | with_reducible exact st_ret0 | with_reducible exact st_cont | with_reducible exact st_pass | (with_reducible refine' st_while ?_ ?_) | (with_reducible refine' st_for ?_ (as_name ?_) ?_ ?_ ?_) | (with_reducible refine' ev_len (by assumption) ?_ ?_ ?_ ?_ ?_ ?_ ?_ ?_) | (with_reducible refine' ev_chr (by assumption) ?_ ?_ ?_ ?_ ?_ ?_ ?_ ?_) | (with_reducible refine' ev_range (by assumption) ?_ ?_ ?_ ?_ ?_ ?_ ?_ ?_) | (with_reducible refine' ev_abs (by assumption) ?_ ?_ ?_ ?_ ?_ ?_ ?_ ?_) | (with_reducible refine' ev_count _ ?_ ?_ ?_ ?_ ?_) | (with_reducible refine' ev_split _ ?_ ?_ ?_ ?_ ?_) | (with_reducible refine' ev_index _ ?_ ?_ ?_ ?_) | (with_reducible refine' ev_attr (C := 113) (by assumption) ?_ ?_ ?_ ?_ ?_ ?_) | (with_reducible refine' st_forT ?_ (as_tuple3 (as_name ?_) (as_name ?_) (as_name ?_) ?_ ?_) ?_ ?_ ?_) | (rintro _ _ _ ⟨_, _, _, rfl, _⟩; exact ⟨_, rfl⟩) | (with_reducible refine' ev_max (by assumption) ?_ ?_ ?_ ?_ ?_ ?_ ?_ ?_) | (with_reducible refine' ev_sum (by assumption) ?_ ?_ ?_ ?_ ?_ ?_ ?_ ?_) | (with_reducible refine' ev_fn (x := Str.ofString "_law_written") (f := 124) (by assumption) (by assumption) ?_ ?_ ?_ ?_ ?_ ?_ ?_ ?_ ?_) | (with_reducible refine' ev_fn (x := Str.ofString "_law_read") (f := 131) (by assumption) (by assumption) ?_ ?_ ?_ ?_ ?_ ?_ ?_ ?_ ?_) | (with_reducible refine' ev_fn (x := Str.ofString "_law_cells") (f := 136) (by assumption) (by assumption) ?_ ?_ ?_ ?_ ?_ ?_ ?_ ?_ ?_) | with_reducible exact ts_nil | (with_reducible refine' ts_one ?_) | ((with_reducible show nsIn _ _ _ = _); k_is) | ((with_reducible show plainGet _ _ _ = _); k_is) | ((with_reducible show hasDictIn _ _ = _); k_is) | ((with_reducible show findIn _ _ _ = _); k_is) | ((with_reducible show noGet _ _ = _); k_is) | ((with_reducible show Stores _ _); first | exact Or.inl rfl | exact Or.inr ⟨rfl, rfl⟩) | ((with_reducible show (_ == _) = false); decide) | ((with_reducible show behindInMarks _ _ = _); with_unfolding_all rfl) | ((with_reducible show _ ≤ _); decide) | ((with_reducible show _ = _); rfl) | ((with_reducible show ∀ _, _ = _); intro _; rfl) | ((with_reducible show ∀ _ _, _ = _); intro _ _; rfl) | ((with_reducible show ∀ _ _ _, _ = _); intro _ _ _; rfl) | (with_reducible refine' bt_val ?_ ?_))
              case w5 =>
              with_reducible refine' xs_cons (st_for ?z0 (as_name ?z1) ?z2 ?z3 ?z4) xs_nil
              case z1 => first | exact Or.inl rfl | exact Or.inr ⟨rfl, rfl⟩
              case z3 => intro _; rfl
              case z4 => intro _ _; rfl
              case z0 => repeat' (first | with_reducible exact ev_int _ _ _ | with_reducible exact ev_str _ _ _ | with_reducible exact ev_none _ _ | with_reducible exact ev_bool _ _ _ | (with_reducible refine' ev_name _ _ ?_ ?_) | (with_reducible refine' ev_binop ?_ ?_) | (with_reducible refine' ev_neg ?_) | (with_reducible refine' ev_cmp ?_ ?_ ?_) | (with_reducible refine' ev_ifexp ?_ ?_ ?_) | (with_reducible refine' ev_list ?_) | (with_reducible refine' ev_tuple ?_) | with_reducible exact es_nil | (with_reducible refine' es_cons ?_ ?_ ?_) | (with_reducible refine' ev_cut ?_ ?_ ?_) | (with_reducible refine' ev_idx ?_ ?_ ?_) | with_reducible exact pt_none | (with_reducible refine' pt_some ?_) | (with_reducible refine' bt_cmp ?_ ?_ ?_) | (with_reducible refine' bt_not ?_) | (with_reducible refine' bt_bool ?_) | with_reducible exact at_and_nil | with_reducible exact at_or_nil | (with_reducible refine' at_and_cons ?_ ?_) | (with_reducible refine' at_or_cons ?_ ?_) | with_reducible exact xs_nil | (with_reducible refine' xs_cons ?_ ?_) | (with_reducible refine' st_assign ?_ ?_ ?_) | (with_reducible refine' st_aug ?_ ?_ ?_) | (with_reducible refine' st_if ?_ ?_ ?_) | (with_reducible refine' st_append ?_ ?_ ?_ ?_ ?_ ?_) | (with_reducible refine' st_augidx ?_ ?_ ?_ ?_) | (with_reducible refine' st_ret ?_) | with_reducible exact st_ret0 | with_reducible exact st_cont | with_reducible exact st_pass | (with_reducible refine' st_while ?_ ?_) | (with_reducible refine' st_for ?_ (as_name ?_) ?_ ?_ ?_) | (with_reducible refine' ev_len (by assumption) ?_ ?_ ?_ ?_ ?_ ?_ ?_ ?_) | (with_reducible refine' ev_chr (by assumption) ?_ ?_ ?_ ?_ ?_ ?_ ?_ ?_) | (with_reducible refine' ev_range (by assumption) ?_ ?_ ?_ ?_ ?_ ?_ ?_ ?_) | (with_reducible refine' ev_abs (by assumption) ?_ ?_ ?_ ?_ ?_ ?_ ?_ ?_) | (with_reducible refine' ev_count _ ?_ ?_ ?_ ?_ ?_) | (with_reducible refine' ev_split _ ?_ ?_ ?_ ?_ ?_) | (with_reducible refine' ev_index _ ?_ ?_ ?_ ?_) | (with_reducible refine' ev_attr (C := 113) (by assumption) ?_ ?_ ?_ ?_ ?_ ?_) | (with_reducible refine' st_forT ?_ (as_tuple3 (as_name ?_) (as_name ?_) (as_name ?_) ?_ ?_) ?_ ?_ ?_) | (rintro _ _ _ ⟨_, _, _, rfl, _⟩; exact ⟨_, rfl⟩) | (with_reducible refine' ev_max (by assumption) ?_ ?_ ?_ ?_ ?_ ?_ ?_ ?_) | (with_reducible refine' ev_sum (by assumption) ?_ ?_ ?_ ?_ ?_ ?_ ?_ ?_) | (with_reducible refine' ev_fn (x := Str.ofString "_law_written") (f := 124) (by assumption) (by assumption) ?_ ?_ ?_ ?_ ?_ ?_ ?_ ?_ ?_) | (with_reducible refine' ev_fn (x := Str.ofString "_law_read") (f := 131) (by assumption) (by assumption) ?_ ?_ ?_ ?_ ?_ ?_ ?_ ?_ ?_) | (with_reducible refine' ev_fn (x := Str.ofString "_law_cells") (f := 136) (by assumption) (by assumption) ?_ ?_ ?_ ?_ ?_ ?_ ?_ ?_ ?_) | with_reducible exact ts_nil | (with_reducible refine' ts_one ?_) | ((with_reducible show nsIn _ _ _ = _); k_is) | ((with_reducible show plainGet _ _ _ = _); k_is) | ((with_reducible show hasDictIn _ _ = _); k_is) | ((with_reducible show findIn _ _ _ = _); k_is) | ((with_reducible show noGet _ _ = _); k_is) | ((with_reducible show Stores _ _); first | exact Or.inl rfl | exact Or.inr ⟨rfl, rfl⟩) | ((with_reducible show (_ == _) = false); decide) | ((with_reducible show behindInMarks _ _ = _); with_unfolding_all rfl) | ((with_reducible show _ ≤ _); decide) | ((with_reducible show _ = _); rfl) | ((with_reducible show ∀ _, _ = _); intro _; rfl) | ((with_reducible show ∀ _ _, _ = _); intro _ _; rfl) | ((with_reducible show ∀ _ _ _, _ = _); intro _ _ _; rfl) | (with_reducible refine' bt_val ?_ ?_))
              case z2 =>
                with_reducible refine' xs_cons ?p0 ?p3
                case p0 =>
                  refine' st_assign_comp (caps := ["k"]) ?hiC ?hclosC ?cpC ?hcellC ?hnamesC ?haC ?htC ?heC ?hstC ?hswC ?htgC ?hsC
                  case hstC => exact Or.inl rfl
                  case hswC => rfl
                  case hclosC => rfl
                  case cpC => exact ⟨fun p hp => by (simp only [List.mem_singleton] at hp; subst hp; first | exact List.mem_cons_self | exact List.mem_cons_of_mem _ List.mem_cons_self | exact List.mem_cons_of_mem _ (List.mem_cons_of_mem _ List.mem_cons_self) | exact List.mem_cons_of_mem _ (List.mem_cons_of_mem _ (List.mem_cons_of_mem _ List.mem_cons_self))), by first | decide | simp, rfl, fun C y hy => by (simp only [List.mem_singleton] at hy; subst hy; exact ⟨by first | exact Or.inl rfl | exact Or.inr rfl, rfl, by intro h; cases h⟩)⟩
                  case hcellC => decide
                  case hnamesC => decide
                  case htgC => intro _ _; rfl
                  case hsC => intro _; rfl
                  case haC => exact fun C => ac_name rfl
                  case hiC => repeat' (first | with_reducible exact ev_int _ _ _ | with_reducible exact ev_str _ _ _ | with_reducible exact ev_none _ _ | with_reducible exact ev_bool _ _ _ | (with_reducible refine' ev_name _ _ ?_ ?_) | (with_reducible refine' ev_binop ?_ ?_) | (with_reducible refine' ev_neg ?_) | (with_reducible refine' ev_cmp ?_ ?_ ?_) | (with_reducible refine' ev_ifexp ?_ ?_ ?_) | (with_reducible refine' ev_list ?_) | (with_reducible refine' ev_tuple ?_) | with_reducible exact es_nil | (with_reducible refine' es_cons ?_ ?_ ?_) | (with_reducible refine' ev_cut ?_ ?_ ?_) | (with_reducible refine' ev_idx ?_ ?_ ?_) | with_reducible exact pt_none | (with_reducible refine' pt_some ?_) | (with_reducible refine' bt_cmp ?_ ?_ ?_) | (with_reducible refine' bt_not ?_) | (with_reducible refine' bt_bool ?_) | with_reducible exact at_and_nil | with_reducible exact at_or_nil | (with_reducible refine' at_and_cons ?_ ?_) | (with_reducible refine' at_or_cons ?_ ?_) | with_reducible exact xs_nil | (with_reducible refine' xs_cons ?_ ?_) | (with_reducible refine' st_assign ?_ ?_ ?_) | (with_reducible refine' st_aug ?_ ?_ ?_) | (with_reducible refine' st_if ?_ ?_ ?_) | (with_reducible refine' st_append ?_ ?_ ?_ ?_ ?_ ?_) | (with_reducible refine' st_augidx ?_ ?_ ?_ ?_) | (with_reducible refine' st_ret ?_) | with_reducible exact st_ret0 | with_reducible exact st_cont | with_reducible exact st_pass | (with_reducible refine' st_while ?_ ?_) | (with_reducible refine' st_for ?_ (as_name ?_) ?_ ?_ ?_) | (with_reducible refine' ev_len (by assumption) ?_ ?_ ?_ ?_ ?_ ?_ ?_ ?_) | (with_reducible refine' ev_chr (by assumption) ?_ ?_ ?_ ?_ ?_ ?_ ?_ ?_) | (with_reducible refine' ev_range (by assumption) ?_ ?_ ?_ ?_ ?_ ?_ ?_ ?_) | (with_reducible refine' ev_abs (by assumption) ?_ ?_ ?_ ?_ ?_ ?_ ?_ ?_) | (with_reducible refine' ev_count _ ?_ ?_ ?_ ?_ ?_) | (with_reducible refine' ev_split _ ?_ ?_ ?_ ?_ ?_) | (with_reducible refine' ev_index _ ?_ ?_ ?_ ?_) | (with_reducible refine' ev_attr (C := 113) (by assumption) ?_ ?_ ?_ ?_ ?_ ?_) | (with_reducible refine' st_forT ?_ (as_tuple3 (as_name ?_) (as_name ?_) (as_name ?_) ?_ ?_) ?_ ?_ ?_) | (rintro _ _ _ ⟨_, _, _, rfl, _⟩; exact ⟨_, rfl⟩) | (with_reducible refine' ev_max (by assumption) ?_ ?_ ?_ ?_ ?_ ?_ ?_ ?_) | (with_reducible refine' ev_sum (by assumption) ?_ ?_ ?_ ?_ ?_ ?_ ?_ ?_) | (with_reducible refine' ev_fn (x := Str.ofString "_law_written") (f := 124) (by assumption) (by assumption) ?_ ?_ ?_ ?_ ?_ ?_ ?_ ?_ ?_) | (with_reducible refine' ev_fn (x := Str.ofString "_law_read") (f := 131) (by assumption) (by assumption) ?_ ?_ ?_ ?_ ?_ ?_ ?_ ?_ ?_) | (with_reducible refine' ev_fn (x := Str.ofString "_law_cells") (f := 136) (by assumption) (by assumption) ?_ ?_ ?_ ?_ ?_ ?_ ?_ ?_ ?_) | with_reducible exact ts_nil | (with_reducible refine' ts_one ?_) | ((with_reducible show nsIn _ _ _ = _); k_is) | ((with_reducible show plainGet _ _ _ = _); k_is) | ((with_reducible show hasDictIn _ _ = _); k_is) | ((with_reducible show findIn _ _ _ = _); k_is) | ((with_reducible show noGet _ _ = _); k_is) | ((with_reducible show Stores _ _); first | exact Or.inl rfl | exact Or.inr ⟨rfl, rfl⟩) | ((with_reducible show (_ == _) = false); decide) | ((with_reducible show behindInMarks _ _ = _); with_unfolding_all rfl) | ((with_reducible show _ ≤ _); decide) | ((with_reducible show _ = _); rfl) | ((with_reducible show ∀ _, _ = _); intro _; rfl) | ((with_reducible show ∀ _ _, _ = _); intro _ _; rfl) | ((with_reducible show ∀ _ _ _, _ = _); intro _ _ _; rfl) | (with_reducible refine' bt_val ?_ ?_))
                  case htC => intro C; repeat' (first | with_reducible exact ev_int _ _ _ | with_reducible exact ev_str _ _ _ | with_reducible exact ev_none _ _ | with_reducible exact ev_bool _ _ _ | (with_reducible refine' ev_name _ _ ?_ ?_) | (with_reducible refine' ev_binop ?_ ?_) | (with_reducible refine' ev_neg ?_) | (with_reducible refine' ev_cmp ?_ ?_ ?_) | (with_reducible refine' ev_ifexp ?_ ?_ ?_) | (with_reducible refine' ev_list ?_) | (with_reducible refine' ev_tuple ?_) | with_reducible exact es_nil | (with_reducible refine' es_cons ?_ ?_ ?_) | (with_reducible refine' ev_cut ?_ ?_ ?_) | (with_reducible refine' ev_idx ?_ ?_ ?_) | with_reducible exact pt_none | (with_reducible refine' pt_some ?_) | (with_reducible refine' bt_cmp ?_ ?_ ?_) | (with_reducible refine' bt_not ?_) | (with_reducible refine' bt_bool ?_) | with_reducible exact at_and_nil | with_reducible exact at_or_nil | (with_reducible refine' at_and_cons ?_ ?_) | (with_reducible refine' at_or_cons ?_ ?_) | with_reducible exact xs_nil | (with_reducible refine' xs_cons ?_ ?_) | (with_reducible refine' st_assign ?_ ?_ ?_) | (with_reducible refine' st_aug ?_ ?_ ?_) | (with_reducible refine' st_if ?_ ?_ ?_) | (with_reducible refine' st_append ?_ ?_ ?_ ?_ ?_ ?_) | (with_reducible refine' st_augidx ?_ ?_ ?_ ?_) | (with_reducible refine' st_ret ?_) | with_reducible exact st_ret0 | with_reducible exact st_cont | with_reducible exact st_pass | (with_reducible refine' st_while ?_ ?_) | (with_reducible refine' st_for ?_ (as_name ?_) ?_ ?_ ?_) | (with_reducible refine' ev_len (by assumption) ?_ ?_ ?_ ?_ ?_ ?_ ?_ ?_) | (with_reducible refine' ev_chr (by assumption) ?_ ?_ ?_ ?_ ?_ ?_ ?_ ?_) | (with_reducible refine' ev_range (by assumption) ?_ ?_ ?_ ?_ ?_ ?_ ?_ ?_) | (with_reducible refine' ev_abs (by assumption) ?_ ?_ ?_ ?_ ?_ ?_ ?_ ?_) | (with_reducible refine' ev_count _ ?_ ?_ ?_ ?_ ?_) | (with_reducible refine' ev_split _ ?_ ?_ ?_ ?_ ?_) | (with_reducible refine' ev_index _ ?_ ?_ ?_ ?_) | (with_reducible refine' ev_attr (C := 113) (by assumption) ?_ ?_ ?_ ?_ ?_ ?_) | (with_reducible refine' st_forT ?_ (as_tuple3 (as_name ?_) (as_name ?_) (as_name ?_) ?_ ?_) ?_ ?_ ?_) | (rintro _ _ _ ⟨_, _, _, rfl, _⟩; exact ⟨_, rfl⟩) | (with_reducible refine' ev_max (by assumption) ?_ ?_ ?_ ?_ ?_ ?_ ?_ ?_) | (with_reducible refine' ev_sum (by assumption) ?_ ?_ ?_ ?_ ?_ ?_ ?_ ?_) | (with_reducible refine' ev_fn (x := Str.ofString "_law_written") (f := 124) (by assumption) (by assumption) ?_ ?_ ?_ ?_ ?_ ?_ ?_ ?_ ?_) | (with_reducible refine' ev_fn (x := Str.ofString "_law_read") (f := 131) (by assumption) (by assumption) ?_ ?_ ?_ ?_ ?_ ?_ ?_ ?_ ?_) | (with_reducible refine' ev_fn (x := Str.ofString "_law_cells") (f := 136) (by assumption) (by assumption) ?_ ?_ ?_ ?_ ?_ ?_ ?_ ?_ ?_) | with_reducible exact ts_nil | (with_reducible refine' ts_one ?_) | ((with_reducible show nsIn _ _ _ = _); k_is) | ((with_reducible show plainGet _ _ _ = _); k_is) | ((with_reducible show hasDictIn _ _ = _); k_is) | ((with_reducible show findIn _ _ _ = _); k_is) | ((with_reducible show noGet _ _ = _); k_is) | ((with_reducible show Stores _ _); first | exact Or.inl rfl | exact Or.inr ⟨rfl, rfl⟩) | ((with_reducible show (_ == _) = false); decide) | ((with_reducible show behindInMarks _ _ = _); with_unfolding_all rfl) | ((with_reducible show _ ≤ _); decide) | ((with_reducible show _ = _); rfl) | ((with_reducible show ∀ _, _ = _); intro _; rfl) | ((with_reducible show ∀ _ _, _ = _); intro _ _; rfl) | ((with_reducible show ∀ _ _ _, _ = _); intro _ _ _; rfl) | (with_reducible refine' bt_val ?_ ?_))
                  case heC => intro C; repeat' (first | with_reducible exact ev_int _ _ _ | with_reducible exact ev_str _ _ _ | with_reducible exact ev_none _ _ | with_reducible exact ev_bool _ _ _ | (with_reducible refine' ev_name _ _ ?_ ?_) | (with_reducible refine' ev_binop ?_ ?_) | (with_reducible refine' ev_neg ?_) | (with_reducible refine' ev_cmp ?_ ?_ ?_) | (with_reducible refine' ev_ifexp ?_ ?_ ?_) | (with_reducible refine' ev_list ?_) | (with_reducible refine' ev_tuple ?_) | with_reducible exact es_nil | (with_reducible refine' es_cons ?_ ?_ ?_) | (with_reducible refine' ev_cut ?_ ?_ ?_) | (with_reducible refine' ev_idx ?_ ?_ ?_) | with_reducible exact pt_none | (with_reducible refine' pt_some ?_) | (with_reducible refine' bt_cmp ?_ ?_ ?_) | (with_reducible refine' bt_not ?_) | (with_reducible refine' bt_bool ?_) | with_reducible exact at_and_nil | with_reducible exact at_or_nil | (with_reducible refine' at_and_cons ?_ ?_) | (with_reducible refine' at_or_cons ?_ ?_) | with_reducible exact xs_nil | (with_reducible refine' xs_cons ?_ ?_) | (with_reducible refine' st_assign ?_ ?_ ?_) | (with_reducible refine' st_aug ?_ ?_ ?_) | (with_reducible refine' st_if ?_ ?_ ?_) | (with_reducible refine' st_append ?_ ?_ ?_ ?_ ?_ ?_) | (with_reducible refine' st_augidx ?_ ?_ ?_ ?_) | (with_reducible refine' st_ret ?_) | with_reducible exact st_ret0 | with_reducible exact st_cont | with_reducible exact st_pass | (with_reducible refine' st_while ?_ ?_) | (with_reducible refine' st_for ?_ (as_name ?_) ?_ ?_ ?_) | (with_reducible refine' ev_len (by assumption) ?_ ?_ ?_ ?_ ?_ ?_ ?_ ?_) | (with_reducible refine' ev_chr (by assumption) ?_ ?_ ?_ ?_ ?_ ?_ ?_ ?_) | (with_reducible refine' ev_range (by assumption) ?_ ?_ ?_ ?_ ?_ ?_ ?_ ?_) | (with_reducible refine' ev_abs (by assumption) ?_ ?_ ?_ ?_ ?_ ?_ ?_ ?_) | (with_reducible refine' ev_count _ ?_ ?_ ?_ ?_ ?_) | (with_reducible refine' ev_split _ ?_ ?_ ?_ ?_ ?_) | (with_reducible refine' ev_index _ ?_ ?_ ?_ ?_) | (with_reducible refine' ev_attr (C := 113) (by assumption) ?_ ?_ ?_ ?_ ?_ ?_) | (with_reducible refine' st_forT ?_ (as_tuple3 (as_name ?_) (as_name ?_) (as_name ?_) ?_ ?_) ?_ ?_ ?_) | (rintro _ _ _ ⟨_, _, _, rfl, _⟩; exact ⟨_, rfl⟩) | (with_reducible refine' ev_max (by assumption) ?_ ?_ ?_ ?_ ?_ ?_ ?_ ?_) | (with_reducible refine' ev_sum (by assumption) ?_ ?_ ?_ ?_ ?_ ?_ ?_ ?_) | (with_reducible refine' ev_fn (x := Str.ofString "_law_written") (f := 124) (by assumption) (by assumption) ?_ ?_ ?_ ?_ ?_ ?_ ?_ ?_ ?_) | (with_reducible refine' ev_fn (x := Str.ofString "_law_read") (f := 131) (by assumption) (by assumption) ?_ ?_ ?_ ?_ ?_ ?_ ?_ ?_ ?_) | (with_reducible refine' ev_fn (x := Str.ofString "_law_cells") (f := 136) (by assumption) (by assumption) ?_ ?_ ?_ ?_ ?_ ?_ ?_ ?_ ?_) | with_reducible exact ts_nil | (with_reducible refine' ts_one ?_) | ((with_reducible show nsIn _ _ _ = _); k_is) | ((with_reducible show plainGet _ _ _ = _); k_is) | ((with_reducible show hasDictIn _ _ = _); k_is) | ((with_reducible show findIn _ _ _ = _); k_is) | ((with_reducible show noGet _ _ = _); k_is) | ((with_reducible show Stores _ _); first | exact Or.inl rfl | exact Or.inr ⟨rfl, rfl⟩) | ((with_reducible show (_ == _) = false); decide) | ((with_reducible show behindInMarks _ _ = _); with_unfolding_all rfl) | ((with_reducible show _ ≤ _); decide) | ((with_reducible show _ = _); rfl) | ((with_reducible show ∀ _, _ = _); intro _; rfl) | ((with_reducible show ∀ _ _, _ = _); intro _ _; rfl) | ((with_reducible show ∀ _ _ _, _ = _); intro _ _ _; rfl) | (with_reducible refine' bt_val ?_ ?_))
                case p3 => repeat' (first | with_reducible exact ev_int _ _ _ | with_reducible exact ev_str _ _ _ | with_reducible exact ev_none _ _ | with_reducible exact ev_bool _ _ _ | (with_reducible refine' ev_name _ _ ?_ ?_) | (with_reducible refine' ev_binop ?_ ?_) | (with_reducible refine' ev_neg ?_) | (with_reducible refine' ev_cmp ?_ ?_ ?_) | (with_reducible refine' ev_ifexp ?_ ?_ ?_) | (with_reducible refine' ev_list ?_) | (with_reducible refine' ev_tuple ?_) | with_reducible exact es_nil | (with_reducible refine' es_cons ?_ ?_ ?_) | (with_reducible refine' ev_cut ?_ ?_ ?_) | (with_reducible refine' ev_idx ?_ ?_ ?_) | with_reducible exact pt_none | (with_reducible refine' pt_some ?_) | (with_reducible refine' bt_cmp ?_ ?_ ?_) | (with_reducible refine' bt_not ?_) | (with_reducible refine' bt_bool ?_) | with_reducible exact at_and_nil | with_reducible exact at_or_nil | (with_reducible refine' at_and_cons ?_ ?_) | (with_reducible refine' at_or_cons ?_ ?_) | with_reducible exact xs_nil | (with_reducible refine' xs_cons ?_ ?_) | (with_reducible refine' st_assign ?_ ?_ ?_) | (with_reducible refine' st_aug ?_ ?_ ?_) | (with_reducible refine' st_if ?_ ?_ ?_) | (with_reducible refine' st_append ?_ ?_ ?_ ?_ ?_ ?_) | (with_reducible refine' st_augidx ?_ ?_ ?_ ?_) | (with_reducible refine' st_ret ?_) | with_reducible exact st_ret0 | with_reducible exact st_cont | with_reducible exact st_pass | (with_reducible refine' st_while ?_ ?_) | (with_reducible refine' st_for ?_ (as_name ?_) ?_ ?_ ?_) | (with_reducible refine' ev_len (by assumption) ?_ ?_ ?_ ?_ ?_ ?_ ?_ ?_) | (with_reducible refine' ev_chr (by assumption) ?_ ?_ ?_ ?_ ?_ ?_ ?_ ?_) | (with_reducible refine' ev_range (by assumption) ?_ ?_ ?_ ?_ ?_ ?_ ?_ ?_) | (with_reducible refine' ev_abs (by assumption) ?_ ?_ ?_ ?_ ?_ ?_ ?_ ?_) | (with_reducible refine' ev_count _ ?_ ?_ ?_ ?_ ?_) | (with_reducible refine' ev_split _ ?_ ?_ ?_ ?_ ?_) | (with_reducible refine' ev_index _ ?_ ?_ ?_ ?_) | (with_reducible refine' ev_attr (C := 113) (by assumption) ?_ ?_ ?_ ?_ ?_ ?_) | (with_reducible refine' st_forT ?_ (as_tuple3 (as_name ?_) (as_name ?_) (as_name ?_) ?_ ?_) ?_ ?_ ?_) | (rintro _ _ _ ⟨_, _, _, rfl, _⟩; exact ⟨_, rfl⟩) | (with_reducible refine' ev_max (by assumption) ?_ ?_ ?_ ?_ ?_ ?_ ?_ ?_) | (with_reducible refine' ev_sum (by assumption) ?_ ?_ ?_ ?_ ?_ ?_ ?_ ?_) | (with_reducible refine' ev_fn (x := Str.ofString "_law_written") (f := 124) (by assumption) (by assumption) ?_ ?_ ?_ ?_ ?_ ?_ ?_ ?_ ?_) | (with_reducible refine' ev_fn (x := Str.ofString "_law_read") (f := 131) (by assumption) (by assumption) ?_ ?_ ?_ ?_ ?_ ?_ ?_ ?_ ?_) | (with_reducible refine' ev_fn (x := Str.ofString "_law_cells") (f := 136) (by assumption) (by assumption) ?_ ?_ ?_ ?_ ?_ ?_ ?_ ?_ ?_) | with_reducible exact ts_nil | (with_reducible refine' ts_one ?_) | ((with_reducible show nsIn _ _ _ = _); k_is) | ((with_reducible show plainGet _ _ _ = _); k_is) | ((with_reducible show hasDictIn _ _ = _); k_is) | ((with_reducible show findIn _ _ _ = _); k_is) | ((with_reducible show noGet _ _ = _); k_is) | ((with_reducible show Stores _ _); first | exact Or.inl rfl | exact Or.inr ⟨rfl, rfl⟩) | ((with_reducible show (_ == _) = false); decide) | ((with_reducible show behindInMarks _ _ = _); with_unfolding_all rfl) | ((with_reducible show _ ≤ _); decide) | ((with_reducible show _ = _); rfl) | ((with_reducible show ∀ _, _ = _); intro _; rfl) | ((with_reducible show ∀ _ _, _ = _); intro _ _; rfl) | ((with_reducible show ∀ _ _ _, _ = _); intro _ _ _; rfl) | (with_reducible refine' bt_val ?_ ?_))
      case fm =>
        intro σ0 Q hh
        refine hide fun Gh kh => ?_
        obtain ⟨ws, wr, a, b, d, e, h1, hw, h9, hn, n1, n2, n3, n4, n5, hA, hB, hD, hE, hQ⟩ := hh
        refine kh ?_
        clear kh Gh
        refine get_W n1 ⟨_, rfl, ?_⟩
        refine cut_L (by rw [List.length_map, sizeLine_eq]; (first | lia | omega)) (listW_lst ⟨by decide, listW_lst (bin_addLL (by rw [show cut (ws.map PV.int) (some 1) none = (ws.map PV.int).drop 1 from cut_lo _ 1, List.length_drop, List.length_map, sizeLine_eq]; simp; (first | lia | omega)) (listW_lst ⟨_, trivial, rfl, ?_⟩))⟩)
        rw [show cut (ws.map PV.int) (some 1) none ++ [PV.int 0] = (ws.drop 1 ++ [0]).map PV.int from by rw [show cut (ws.map PV.int) (some 1) none = (ws.map PV.int).drop 1 from cut_lo _ 1]; simp [List.map_drop]]
        refine forW_inv (Li10 wr a b) ?step ?fin _ _ ?init
        case init => exact .mk (ws.drop 1 ++ [0]) [] [] [] d e rfl hn (fun x hx => by cases hx) (fun x hx => by cases hx) (fun x hx => by cases hx) (fun x hx => by cases hx) (by simp; (first | lia | omega)) (by simp; (first | lia | omega)) (by simp; (first | lia | omega)) (fun x hx => by cases hx) (fun x hx => by cases hx) n2 n3 n4 n5 hA hB hD hE
        case fin =>
          intro σ hI
          obtain ⟨todo, rows, r1, r2, d, e, h0, hn, o1, o2, c1, c2, l1, l2, l3, ok, ch, n2, n3, n4, n5, hA, hB, hD, hE⟩ := hI
          exact hQ σ rows ok ch (by (first | lia | omega)) n2 n3 n4 hA hB
        case step =>
          clear hQ hA hB hD hE hn n1 n2 n3 n4 n5
          intro p rst σ K hI kn kc
          refine hide fun Gh kh => ?_
          obtain ⟨todo, rows, r1, r2, d, e, h0, hn, o1, o2, c1, c2, l1, l2, l3, ok, ch, n2, n3, n4, n5, hA, hB, hD, hE⟩ := hI
          cases todo with
          | nil => cases h0
          | cons x todo =>
          cases h0
          simp only [List.length_cons] at l1 l2 l3
          refine kh ?_
          clear kh Gh
          refine get_W (show _ = some (PV.int x) from rfl) (bin_modI (by decide) (cmp_neI ?_))
          have h6 := fm_ok x (k := 6) (by decide)
          by_cases hx : x.fmod 6 = 0
          · refine PySem.W.ite_neg (by rw [hx]; decide) ?_
            clear kc
            have hf : ∃ (k : Nat) (fl : PV), (x.fdiv 6).fmod 3 = (k : Int) ∧ ([.bool true, .bool false, .none] : List PV)[k]? = some fl ∧ (fl = .none ∨ ∃ bb, fl = .bool bb) := by
              have h3 := fm_ok (x.fdiv 6) (k := 3) (by decide)
              have hm : (x.fdiv 6).fmod 3 = 0 ∨ (x.fdiv 6).fmod 3 = 1 ∨ (x.fdiv 6).fmod 3 = 2 := by (first | lia | omega)
              rcases hm with e | e | e <;> rw [e]
              · exact ⟨0, _, rfl, rfl, .inr ⟨_, rfl⟩⟩
              · exact ⟨1, _, rfl, rfl, .inr ⟨_, rfl⟩⟩
              · exact ⟨2, _, rfl, rfl, .inl rfl⟩
            obtain ⟨k, fl, hk, hkl, hfl⟩ := hf
            refine seq_to ⟨(σ.loc.set "x" (.int x)).set "flag" fl, σ.H⟩ (fun R hR => ⟨by decide, listW_lst (get_W (show _ = some (PV.int x) from rfl) (bin_divI (by decide) (by decide) (bin_modI (by decide) ?_)))⟩) ?_
            · rw [hk]; exact idx_L hkl (by decide) hR
            clear hk hkl hx h6
            refine seq_ex (fun σ' => ∃ rows' : List Rw, rows'.length + todo.length ≤ 64 ∧ (∀ x ∈ rows', OkRw x) ∧ (∀ x ∈ rows', ChRw x) ∧ σ'.loc "wrap" = some (.int (wr : Int)) ∧ σ'.loc "diffs" = some (.ref a) ∧ σ'.loc "due" = some (.ref b) ∧ σ'.H a = some ⟨true, rows'.map Rw.P⟩ ∧ σ'.H b = some ⟨true, (rows'.map (Rw.due wr)).flatten⟩) (fun R hR => ?_) ?_
            · refine get_W (show _ = some fl from rfl) ?_
              rcases hfl with rfl | ⟨bb, rfl⟩
              · refine cmp_isN (PySem.W.ite_pos rfl ?_)
                have hab : a ≠ b := fun h => by rw [h] at hn; simp at hn
                refine seq_to ⟨(σ.loc.set "x" (.int x)).set "flag" .none, σ.H.set a ⟨true, (rows ++ [Rw.sep]).map Rw.P⟩⟩ (fun R' hR' => get_W (show _ = some (PV.ref a) from n3) ⟨a, _, rfl, hA, ⟨by rw [sizeLine_eq]; simp, _, hA, by rw [List.length_map, sizeLine_eq]; (first | lia | omega), by rw [List.map_append] at hR'; exact hR'⟩⟩) ?_
                refine get_W (show _ = some (PV.ref b) from n4) ⟨b, _, rfl, (LH.set_ne _ _ (Ne.symm hab)).trans hB, ⟨by rw [sizeLine_eq]; simp, _, (LH.set_ne _ _ (Ne.symm hab)).trans hB, ?_, hR _ ⟨rows ++ [.sep], by simp; (first | lia | omega), fun y hy => ?_, fun y hy => ?_, n2, n3, n4, (LH.set_ne _ _ hab).trans (LH.set_self _ _ _), ?_⟩⟩⟩
                · have := due_len wr rows ok; rw [sizeLine_eq]; (first | lia | omega)
                · rcases List.mem_append.mp hy with h | h
                  · exact ok y h
                  · rw [List.mem_singleton.mp h]; trivial
                · rcases List.mem_append.mp hy with h | h
                  · exact ch y h
                  · rw [List.mem_singleton.mp h]; trivial
                · refine (LH.set_self _ _ _).trans ?_
                  rw [List.map_append, List.flatten_append]; rfl
              · refine cmp_isB (PySem.W.ite_neg (by decide) ?_)
                have hab : a ≠ b := fun h => by rw [h] at hn; simp at hn
                obtain ⟨i, hi⟩ : ∃ i : Int, i = ((rows.map Rw.P).length : Int) + 1 := ⟨_, rfl⟩
                obtain ⟨j, hj⟩ : ∃ j : Int, j = ((rows.map Rw.P).length : Int) + 65 := ⟨_, rfl⟩
                have hlen : (rows.map Rw.P).length ≤ 64 := by rw [List.length_map]; (first | lia | omega)
                refine seq_to ⟨((σ.loc.set "x" (.int x)).set "flag" (.bool bb)).set "lines" (.tup [.int i, .int j]), σ.H⟩ (fun R' hR' => ?_) ?_
                · refine get_W (show _ = some (PV.ref a) from n3) (len_R hA (show (rows.map Rw.P).length < 2 ^ 62 by (first | lia | omega)) (bin_addI (get_W (show _ = some (PV.ref a) from n3) (len_R hA (show (rows.map Rw.P).length < 2 ^ 62 by (first | lia | omega)) (bin_addI ⟨by rw [sizeLine_eq]; simp, ?_⟩)))))
                  rw [hi, hj] at hR'
                  exact hR'
                have hi0 : i ≠ 0 := by (first | lia | omega)
                have hj0 : j ≠ 0 := by (first | lia | omega)
                clear hi hj
                have hside : ∀ (side : Int) (q : Int) (tg : Addr) (r : Cells) (k : Nat), True := fun _ _ _ _ _ => trivial
                clear hside
                refine seq_to ⟨(((σ.loc.set "x" (.int x)).set "flag" (.bool bb)).set "lines" (.tup [.int i, .int j])).set "texts" (.lst [sideP i r1, sideP j r2]), σ.H⟩ (fun R' hR' => ⟨by rw [sizeLine_eq]; simp, [.int 0, .int 1], rfl, by rw [sizeLine_eq]; simp, ?_⟩) ?_
                · refine compW_map (fun p => match p with | .int 0 => sideP i r1 | _ => sideP j r2) _ (fun p hp R1 hr => ?_) (listW_lst hR')
                  clear hR'
                  rcases List.mem_cons.mp hp with rfl | hp
                  · refine get_W (show _ = some (PV.lst [.ref d, .ref e]) from n5) (get_W rfl (idx_L (k := 0) (p := .ref d) rfl (by simp) ⟨by decide, listW_lst (ne_nil (lstOf_ref hD) (cells_gd r1 59 c1) ?_)⟩))
                    cases r1 with
                    | nil =>
                      refine PySem.W.ite_neg (by decide) ⟨mulNl, ⟨by rw [sizeLine_eq]; simp, ?_⟩⟩
                      have hr' : R1 (sideP i []) σ.H := hr
                      rw [ofSe, ofNl10, ← sideP_nil i]; exact hr'
                    | cons y r1 =>
                      refine PySem.W.ite_pos rfl (get_W (show _ = some (PV.tup [.int i, .int j]) from rfl) (get_W rfl (idx_T (k := 0) (p := .int i) rfl (by simp) (get_W (show _ = some (PV.lst [.ref d, .ref e]) from n5) (get_W rfl (idx_L (k := 0) (p := .ref d) rfl (by simp) ⟨rfl, hwr (y :: r1) (.ref d) _ _ (lstOf_ref hD) o1 (by (first | lia | omega)) ⟨by rw [sizeLine_eq]; simp, ?_⟩⟩))))))
                      have hr' : R1 (sideP i (y :: r1)) σ.H := hr
                      rw [sideP_cons] at hr'; exact hr'
                  · rw [List.mem_singleton.mp hp] at hr ⊢
                    refine get_W (show _ = some (PV.lst [.ref d, .ref e]) from n5) (get_W rfl (idx_L (k := 1) (p := .ref e) rfl (by simp) ⟨by decide, listW_lst (ne_nil (lstOf_ref hE) (cells_gd r2 59 c2) ?_)⟩))
                    cases r2 with
                    | nil =>
                      refine PySem.W.ite_neg (by decide) ⟨mulNl, ⟨by rw [sizeLine_eq]; simp, ?_⟩⟩
                      have hr' : R1 (sideP j []) σ.H := hr
                      rw [ofSe, ofNl10, ← sideP_nil j]; exact hr'
                    | cons y r2 =>
                      refine PySem.W.ite_pos rfl (get_W (show _ = some (PV.tup [.int i, .int j]) from rfl) (get_W rfl (idx_T (k := 1) (p := .int j) rfl (by simp) (get_W (show _ = some (PV.lst [.ref d, .ref e]) from n5) (get_W rfl (idx_L (k := 1) (p := .ref e) rfl (by simp) ⟨rfl, hwr (y :: r2) (.ref e) _ _ (lstOf_ref hE) o2 (by (first | lia | omega)) ⟨by rw [sizeLine_eq]; simp, ?_⟩⟩))))))
                      have hr' : R1 (sideP j (y :: r2)) σ.H := hr
                      rw [sideP_cons] at hr'; exact hr'
                refine seq_ex (fun σ' => σ'.loc "wrap" = some (.int (wr : Int)) ∧ σ'.loc "diffs" = some (.ref a) ∧ σ'.loc "due" = some (.ref b) ∧ σ'.loc "flag" = some (.bool bb) ∧ σ'.loc "lines" = some (.tup [.int i, .int j]) ∧ σ'.loc "sides" = some (.lst [.ref d, .ref e]) ∧ σ'.H = σ.H.set a ⟨true, (rows ++ [Rw.row i j r1 r2 bb]).map Rw.P⟩) (fun R' hR' => ?_) ?_
                · refine get_W (show _ = some (PV.ref a) from n3) ⟨a, _, rfl, hA, get_W rfl (idx_L (k := 0) (p := sideP i r1) rfl (by simp) (get_W rfl (idx_L (k := 1) (p := sideP j r2) rfl (by simp) (get_W (show _ = some (PV.bool bb) from rfl) ⟨by rw [sizeLine_eq]; simp, _, hA, by rw [sizeLine_eq]; (first | lia | omega), hR' _ ⟨n2, n3, n4, rfl, rfl, n5, ?_⟩⟩))))⟩
                  rw [List.map_append]; rfl
                rintro σ2 ⟨w1, w2, w3, w4, w5, w6, w7⟩
                have had : a ≠ d := fun h => by rw [h] at hn; simp at hn
                have hae : a ≠ e := fun h => by rw [h] at hn; simp at hn
                have w8 : σ2.H a = some ⟨true, (rows ++ [Rw.row i j r1 r2 bb]).map Rw.P⟩ := by rw [w7]; exact LH.set_self _ _ _
                have w9 : σ2.H b = some ⟨true, (rows.map (Rw.due wr)).flatten⟩ := by rw [w7]; exact (LH.set_ne _ _ (Ne.symm hab)).trans hB
                have w10 : σ2.H d = some ⟨true, r1.map cellP⟩ := by rw [w7]; exact (LH.set_ne _ _ (Ne.symm had)).trans hD
                have w11 : σ2.H e = some ⟨true, r2.map cellP⟩ := by rw [w7]; exact (LH.set_ne _ _ (Ne.symm hae)).trans hE
                clear w7
                refine seq_to ⟨σ2.loc.set "cells" (.lst [.lst (cellsOut i r1 wr), .lst (cellsOut j r2 wr)]), σ2.H⟩ (fun R' hR' => ⟨by rw [sizeLine_eq]; simp, [.int 0, .int 1], rfl, by rw [sizeLine_eq]; simp, ?_⟩) ?_
                · refine compW_map (fun p => match p with | .int 0 => .lst (cellsOut i r1 wr) | _ => .lst (cellsOut j r2 wr)) _ (fun p hp R1 hr => ?_) (listW_lst hR')
                  clear hR'
                  rcases List.mem_cons.mp hp with rfl | hp
                  · exact get_W (show _ = some (PV.tup [.int i, .int j]) from w5) (get_W rfl (idx_T (k := 0) (p := .int i) rfl (by simp) (get_W (show _ = some (PV.lst [.ref d, .ref e]) from w6) (get_W rfl (idx_L (k := 0) (p := .ref d) rfl (by simp) (get_W (show _ = some (PV.int wr) from w1) ⟨rfl, hce i r1 (.ref d) wr _ _ (lstOf_ref w10) c1 (by (first | lia | omega)) hw h9 hr⟩))))))
                  · rw [List.mem_singleton.mp hp] at hr ⊢
                    exact get_W (show _ = some (PV.tup [.int i, .int j]) from w5) (get_W rfl (idx_T (k := 1) (p := .int j) rfl (by simp) (get_W (show _ = some (PV.lst [.ref d, .ref e]) from w6) (get_W rfl (idx_L (k := 1) (p := .ref e) rfl (by simp) (get_W (show _ = some (PV.int wr) from w1) ⟨rfl, hce j r2 (.ref e) wr _ _ (lstOf_ref w11) c2 (by (first | lia | omega)) hw h9 hr⟩))))))
                have hL := cellsOut_len i r1 wr
                have hM := cellsOut_len j r2 wr
                have hdue : (Rw.row i j r1 r2 bb).due wr = zq bb (max (cellsOut i r1 wr).length (cellsOut j r2 wr).length) (cellsOut i r1 wr) (cellsOut j r2 wr) := rfl
                have hbl := due_len wr rows ok
                generalize cellsOut i r1 wr = L at hL hdue ⊢
                generalize cellsOut j r2 wr = M at hM hdue ⊢
                refine get_W rfl (idx_L (k := 0) (p := .lst L) rfl (by simp) (len_L (by (first | lia | omega)) (get_W rfl (idx_L (k := 1) (p := .lst M) rfl (by simp) (len_L (by (first | lia | omega)) ⟨_, _, rfl, ?_⟩)))))
                rw [show (if (M.length : Int) > (L.length : Int) then (M.length : Int) else (L.length : Int)) = ((max L.length M.length : Nat) : Int) by split <;> (first | lia | omega)]
                have hN : max L.length M.length ≤ 64 := by (first | lia | omega)
                refine ⟨_, trivial, (show (if Builtin.Range.small 0 ((max L.length M.length : Nat) : Int) 1 = true then some ((rngInts 0 ((max L.length M.length : Nat) : Int) 1).map PV.int) else none) = _ from if_pos (small_ok (by (first | lia | omega)) (by (first | lia | omega)) (by (first | lia | omega)))), ?_⟩
                rw [range1, List.map_map]
                clear hcond G' hFw hwr hFr hrd hFc hce hFg hgn
                refine forW_inv (fun rest σ' => ∃ (k : Nat) (D : List PV), k ≤ max L.length M.length ∧ rest = (List.range' k (max L.length M.length - k)).map (PV.int ∘ fun j : Nat => (j : Int)) ∧ D.length ≤ 64 * rows.length + k ∧ D ++ zq bb (max L.length M.length - k) (L.drop k) (M.drop k) = (rows.map (Rw.due wr)).flatten ++ zq bb (max L.length M.length) L M ∧
                  σ'.loc "wrap" = some (.int (wr : Int)) ∧ σ'.loc "diffs" = some (.ref a) ∧ σ'.loc "due" = some (.ref b) ∧ σ'.loc "flag" = some (.bool bb) ∧ σ'.loc "cells" = some (.lst [.lst L, .lst M]) ∧ σ'.H a = some ⟨true, (rows ++ [Rw.row i j r1 r2 bb]).map Rw.P⟩ ∧ σ'.H b = some ⟨true, D⟩) ?sp ?fn3 _ _ ?in3
                case in3 => exact ⟨0, (rows.map (Rw.due wr)).flatten, Nat.zero_le _, by rw [Nat.sub_zero], by (first | lia | omega), by rw [Nat.sub_zero, List.drop_zero, List.drop_zero], w1, w2, w3, w4, rfl, w8, w9⟩
                case fn3 =>
                  rintro σ' ⟨k, D, u1, u2, u3, u4, v1, v2, v3, v4, v5, v6, v7⟩
                  have u0 : max L.length M.length - k = 0 := by
                    have := congrArg List.length u2
                    rw [List.length_map, List.length_range'] at this
                    exact this.symm
                  rw [u0] at u4
                  have u5 : D = (rows.map (Rw.due wr)).flatten ++ zq bb (max L.length M.length) L M := by rw [← u4]; exact (List.append_nil D).symm
                  refine hR σ' ⟨rows ++ [.row i j r1 r2 bb], by rw [List.length_append]; show _ + 1 + _ ≤ _; (first | lia | omega), fun y hy => ?_, fun y hy => ?_, v1, v2, v3, v6, ?_⟩
                  · rcases List.mem_append.mp hy with h | h
                    · exact ok y h
                    · rw [List.mem_singleton.mp h]; exact ⟨hi0, hj0, o1, o2, by (first | lia | omega), by (first | lia | omega)⟩
                  · rcases List.mem_append.mp hy with h | h
                    · exact ch y h
                    · rw [List.mem_singleton.mp h]; exact ⟨c1, c2⟩
                  · rw [v7, u5, List.map_append, List.flatten_append, List.map_cons, List.map_nil, List.flatten_cons, List.flatten_nil, List.append_nil, hdue]
                case sp =>
                  clear hR kn
                  rintro p rs σ' K' ⟨k, D, u1, u2, u3, u4, v1, v2, v3, v4, v5, v6, v7⟩ kn' _
                  obtain ⟨n, hn'⟩ : ∃ n, max L.length M.length - k = n + 1 := by
                    cases h : max L.length M.length - k with
                    | zero => rw [h] at u2; cases u2
                    | succ n => exact ⟨n, rfl⟩
                  rw [hn', List.range'_succ, List.map_cons] at u2
                  rw [hn'] at u4
                  obtain ⟨rfl, hrs⟩ := List.cons.inj u2
                  have en : n = max L.length M.length - (k + 1) := by (first | lia | omega)
                  refine seq_to ⟨(σ'.loc.set "k" (.int (k : Int))).set "pair" (.lst [(L.drop k).headD dpad, (M.drop k).headD dpad]), σ'.H⟩ (fun R' hR' => get_W (show _ = some (PV.lst [.lst L, .lst M]) from v5) ⟨[.lst L, .lst M], rfl, by rw [sizeLine_eq]; simp, ?_⟩) ?_
                  · refine compW_map (fun p => match p with | .lst X => (X.drop k).headD dpad | _ => p) _ (fun p hp R1 hr => ?_) (listW_lst hR')
                    have hpX : ∃ X, p = .lst X ∧ X.length ≤ 64 := by
                      rcases List.mem_cons.mp hp with rfl | hp
                      · exact ⟨L, rfl, by (first | lia | omega)⟩
                      · exact ⟨M, List.mem_singleton.mp hp, by (first | lia | omega)⟩
                    obtain ⟨X, rfl, hX⟩ := hpX
                    clear hp hR' kn'
                    have hr' : R1 ((X.drop k).headD dpad) σ'.H := hr
                    clear hr
                    refine get_W (show _ = some (PV.int (k : Int)) from rfl) (get_W rfl (len_L (by (first | lia | omega)) (cmp_ltI ?_)))
                    by_cases hk : k < X.length
                    · refine PySem.W.ite_pos (by simpa using hk) (get_W rfl (get_W (show _ = some (PV.int (k : Int)) from rfl) (idx_L (drop_head hk) (by (first | lia | omega)) hr')))
                    · refine PySem.W.ite_neg (by simpa using hk) ?_
                      rw [drop_none hk] at hr'
                      rw [ofSe, ofSpc]
                      exact ⟨by decide, ⟨by decide, listW_lst ⟨by decide, hr'⟩⟩⟩
                  · refine get_W (show _ = some (PV.ref b) from v3) ⟨b, _, rfl, v7, get_W rfl (idx_L (k := 0) rfl (by simp) (get_W rfl (idx_L (k := 1) rfl (by simp) (get_W (show _ = some (PV.bool bb) from v4) ⟨by rw [sizeLine_eq]; simp, _, v7, by rw [sizeLine_eq]; (first | lia | omega), kn' _ ⟨k + 1, _, by (first | lia | omega), by rw [hrs, ← en], ?_, ?_, v1, v2, v3, v4, v5, (LH.set_ne _ _ hab).trans v6, LH.set_self _ _ _⟩⟩))))⟩
                    · rw [List.length_append]; show _ + 1 ≤ _; (first | lia | omega)
                    · rw [← u4, ← en, List.append_assoc, ← drop_tail' L, ← drop_tail' M]; rfl
            · rintro σ2 ⟨rows', q1, q2, q3, q4, q5, q6, q7, q8⟩
              refine ⟨by decide, listW_ref fun d' hd' => ⟨by decide, listW_ref fun e' he' => ⟨by rw [sizeLine_eq]; simp, listW_lst ?_⟩⟩⟩
              have hab : a ≠ b := fun h => by rw [h] at hn; simp at hn
              have ad : a ≠ d' := fun h => by rw [h] at q7; rw [q7] at hd'; cases hd'
              have bd : b ≠ d' := fun h => by rw [h] at q8; rw [q8] at hd'; cases hd'
              have he2 : (σ2.H.set d' ⟨true, []⟩) e' = none := he'
              have de : d' ≠ e' := fun h => by rw [h, LH.set_self] at he2; cases he2
              rw [LH.set_ne _ _ (Ne.symm de)] at he2
              have ae : a ≠ e' := fun h => by rw [h] at q7; rw [q7] at he2; cases he2
              have be : b ≠ e' := fun h => by rw [h] at q8; rw [q8] at he2; cases he2
              exact kn _ (.mk todo rows' [] [] d' e' rfl (by simp [hab, ad, bd, ae, be, de]) (fun x hx => by cases hx) (fun x hx => by cases hx) (fun x hx => by cases hx) (fun x hx => by cases hx) (by simp; (first | lia | omega)) (by simp; (first | lia | omega)) q1 q2 q3 q4 q5 q6 rfl
                ((LH.set_ne _ _ ae).trans ((LH.set_ne _ _ ad).trans q7)) ((LH.set_ne _ _ be).trans ((LH.set_ne _ _ bd).trans q8)) ((LH.set_ne _ _ de).trans (LH.set_self _ _ _)) (LH.set_self _ _ _))
          · refine PySem.W.ite_pos (by simpa using hx) ?_
            clear kn
            refine seq_ex (Li10 wr a b (todo.map .int)) (fun R hR => ?_) (fun σ' h => kc σ' h)
            obtain ⟨k, sl, hk, hkl, hsl⟩ : ∃ (k : Nat) (sl : List Int), x.fmod 6 - 1 = (k : Int) ∧ ([.lst [.int 0], .lst [.int 0], .lst [.int 1], .lst [.int 1], .lst [.int 0, .int 1]] : List PV)[k]? = some (.lst (sl.map .int)) ∧ (sl = [0] ∨ sl = [1] ∨ sl = [0, 1]) := by
              have hm : x.fmod 6 = 1 ∨ x.fmod 6 = 2 ∨ x.fmod 6 = 3 ∨ x.fmod 6 = 4 ∨ x.fmod 6 = 5 := by (first | lia | omega)
              rcases hm with e | e | e | e | e <;> rw [e]
              · exact ⟨0, [0], rfl, rfl, .inl rfl⟩
              · exact ⟨1, [0], rfl, rfl, .inl rfl⟩
              · exact ⟨2, [1], rfl, rfl, .inr (.inl rfl)⟩
              · exact ⟨3, [1], rfl, rfl, .inr (.inl rfl)⟩
              · exact ⟨4, [0, 1], rfl, rfl, .inr (.inr rfl)⟩
            refine ⟨by decide, listW_lst ⟨by decide, listW_lst ⟨by decide, listW_lst ⟨by decide, listW_lst ⟨by decide, listW_lst ⟨by decide, get_W (show _ = some (PV.int x) from rfl) (bin_modI (by decide) (bin_subI ?_))⟩⟩⟩⟩⟩⟩
            rw [hk]
            refine idx_T hkl (by decide) ⟨_, trivial, rfl, ?_⟩
            have h24 := fm_ok (x.fdiv 24) (k := 95) (by decide)
            have hde : d ≠ e := fun h => by rw [h] at hn; simp at hn
            have had : a ≠ d := fun h => by rw [h] at hn; simp at hn
            have hae : a ≠ e := fun h => by rw [h] at hn; simp at hn
            have hbd : b ≠ d := fun h => by rw [h] at hn; simp at hn
            have hbe : b ≠ e := fun h => by rw [h] at hn; simp at hn
            refine forW_inv (fun rest σ' => ∃ (sl' : List Int) (r1' r2' : Cells), rest = sl'.map .int ∧ (sl' = [] ∨ sl' = [0] ∨ sl' = [1] ∨ sl' = [0, 1]) ∧ (r1' = r1 ∨ (r1' = r1 ++ [((32 + (x.fdiv 24).fmod 95).toNat, mark4 (x.fdiv 6))] ∧ 0 ∉ sl')) ∧ (r2' = r2 ∨ (r2' = r2 ++ [((32 + (x.fdiv 24).fmod 95).toNat, mark4 (x.fdiv 6))] ∧ 1 ∉ sl')) ∧
              σ'.loc "x" = some (.int x) ∧ σ'.loc "wrap" = some (.int (wr : Int)) ∧ σ'.loc "diffs" = some (.ref a) ∧ σ'.loc "due" = some (.ref b) ∧ σ'.loc "sides" = some (.lst [.ref d, .ref e]) ∧ σ'.H a = some ⟨true, rows.map Rw.P⟩ ∧ σ'.H b = some ⟨true, (rows.map (Rw.due wr)).flatten⟩ ∧ σ'.H d = some ⟨true, r1'.map cellP⟩ ∧ σ'.H e = some ⟨true, r2'.map cellP⟩) ?stp ?fn2 _ _ ?in2
            case in2 => exact ⟨sl, r1, r2, rfl, .inr (by rcases hsl with h | h | h <;> simp [h]), .inl rfl, .inl rfl, rfl, n2, n3, n4, n5, hA, hB, hD, hE⟩
            case fn2 =>
              rintro σ' ⟨sl', r1', r2', e1, _, hr1, hr2, m1, m2, m3, m4, m5, m6, m7, m8, m9⟩
              have p1 : okCs r1' ∧ (∀ x ∈ r1', x.1 < 128 ∧ ∀ c ∈ x.2, c < 128) ∧ r1'.length ≤ r1.length + 1 := by
                rcases hr1 with rfl | ⟨rfl, _⟩
                · exact ⟨o1, c1, by (first | lia | omega)⟩
                · exact ⟨(snoc_ok o1 c1).1, (snoc_ok o1 c1).2, by simp⟩
              have p2 : okCs r2' ∧ (∀ x ∈ r2', x.1 < 128 ∧ ∀ c ∈ x.2, c < 128) ∧ r2'.length ≤ r2.length + 1 := by
                rcases hr2 with rfl | ⟨rfl, _⟩
                · exact ⟨o2, c2, by (first | lia | omega)⟩
                · exact ⟨(snoc_ok o2 c2).1, (snoc_ok o2 c2).2, by simp⟩
              exact hR σ' (.mk todo rows r1' r2' d e rfl hn p1.1 p2.1 p1.2.1 p2.2.1 (by (first | lia | omega)) (by (first | lia | omega)) (by (first | lia | omega)) ok ch m2 m3 m4 m5 m6 m7 m8 m9)
            case stp =>
              clear hR
              rintro p rs σ' K' ⟨sl', r1', r2', e1, hs', hr1, hr2, m1, m2, m3, m4, m5, m6, m7, m8, m9⟩ kn' _
              have q1 : r1'.length ≤ 64 := by rcases hr1 with h | ⟨h, _⟩ <;> rw [h] <;> first | (first | lia | omega) | (rw [List.length_append]; simp; (first | lia | omega))
              have q2 : r2'.length ≤ 64 := by rcases hr2 with h | ⟨h, _⟩ <;> rw [h] <;> first | (first | lia | omega) | (rw [List.length_append]; simp; (first | lia | omega))
              have at0 : ∀ s2 : List Int, rs = s2.map PV.int → p = .int 0 → r1' = r1 → (s2 = [] ∨ s2 = [1]) → (r2' = r2 ∨ (r2' = r2 ++ [((32 + (x.fdiv 24).fmod 95).toNat, mark4 (x.fdiv 6))] ∧ 1 ∉ s2)) → K' .next ⟨σ'.loc.set "side" p, σ'.H.set d ⟨true, r1'.map cellP ++ [cellP ((32 + (x.fdiv 24).fmod 95).toNat, mark4 (x.fdiv 6))]⟩⟩ := fun s2 hr hp h1' h2' h3' => by
                refine kn' _ ⟨s2, r1' ++ [((32 + (x.fdiv 24).fmod 95).toNat, mark4 (x.fdiv 6))], r2', hr, by rcases h2' with h | h <;> simp [h], .inr ⟨by rw [h1'], by rcases h2' with h | h <;> simp [h]⟩, h3', m1, m2, m3, m4, m5, (LH.set_ne _ _ had).trans m6, (LH.set_ne _ _ hbd).trans m7, ?_, (LH.set_ne _ _ (Ne.symm hde)).trans m9⟩
                rw [List.map_append]; exact LH.set_self _ _ _
              have at1 : rs = [] → p = .int 1 → r2' = r2 → K' .next ⟨σ'.loc.set "side" p, σ'.H.set e ⟨true, r2'.map cellP ++ [cellP ((32 + (x.fdiv 24).fmod 95).toNat, mark4 (x.fdiv 6))]⟩⟩ := fun hr hp h2' => by
                refine kn' _ ⟨[], r1', r2' ++ [((32 + (x.fdiv 24).fmod 95).toNat, mark4 (x.fdiv 6))], hr, .inl rfl, by rcases hr1 with h | ⟨h, _⟩ <;> simp [h], .inr ⟨by rw [h2'], by simp⟩, m1, m2, m3, m4, m5, (LH.set_ne _ _ hae).trans m6, (LH.set_ne _ _ hbe).trans m7, (LH.set_ne _ _ hde).trans m8, ?_⟩
                rw [List.map_append]; exact LH.set_self _ _ _
              clear kn'
              rcases hs' with rfl | rfl | rfl | rfl
              · cases e1
              · cases e1
                have h := at0 [] rfl rfl (by rcases hr1 with h | ⟨_, h⟩; exact h; simp at h) (.inl rfl) (by rcases hr2 with h | ⟨h, _⟩ <;> simp [h])
                refine get_W (show _ = some (PV.lst [.ref d, .ref e]) from m5) (get_W rfl (idx_L (k := 0) (p := .ref d) rfl (by simp) ⟨d, _, rfl, m8, get_W (show _ = some (PV.int x) from m1) (bin_divI (by decide) (by decide) (bin_modI (by decide) (bin_addI ⟨_, rfl, by (first | lia | omega), by (first | lia | omega), ?_⟩)))⟩))
                refine ⟨by decide, listW_lst (get_W (show _ = some (PV.int x) from m1) (bin_divI (by decide) (by decide) (bin_modI (by decide) (mark4_idxS _ ⟨by rw [sizeLine_eq]; simp, _, m8, by rw [List.length_map, sizeLine_eq]; (first | lia | omega), ?_⟩))))⟩
                exact h
              · cases e1
                have h := at1 rfl rfl (by rcases hr2 with h | ⟨_, h⟩; exact h; simp at h)
                refine get_W (show _ = some (PV.lst [.ref d, .ref e]) from m5) (get_W rfl (idx_L (k := 1) (p := .ref e) rfl (by simp) ⟨e, _, rfl, m9, get_W (show _ = some (PV.int x) from m1) (bin_divI (by decide) (by decide) (bin_modI (by decide) (bin_addI ⟨_, rfl, by (first | lia | omega), by (first | lia | omega), ?_⟩)))⟩))
                refine ⟨by decide, listW_lst (get_W (show _ = some (PV.int x) from m1) (bin_divI (by decide) (by decide) (bin_modI (by decide) (mark4_idxS _ ⟨by rw [sizeLine_eq]; simp, _, m9, by rw [List.length_map, sizeLine_eq]; (first | lia | omega), ?_⟩))))⟩
                exact h
              · cases e1
                have h := at0 [1] rfl rfl (by rcases hr1 with h | ⟨_, h⟩; exact h; simp at h) (.inr rfl) (.inl (by rcases hr2 with h | ⟨_, h⟩; exact h; simp at h))
                refine get_W (show _ = some (PV.lst [.ref d, .ref e]) from m5) (get_W rfl (idx_L (k := 0) (p := .ref d) rfl (by simp) ⟨d, _, rfl, m8, get_W (show _ = some (PV.int x) from m1) (bin_divI (by decide) (by decide) (bin_modI (by decide) (bin_addI ⟨_, rfl, by (first | lia | omega), by (first | lia | omega), ?_⟩)))⟩))
                refine ⟨by decide, listW_lst (get_W (show _ = some (PV.int x) from m1) (bin_divI (by decide) (by decide) (bin_modI (by decide) (mark4_idxS _ ⟨by rw [sizeLine_eq]; simp, _, m8, by rw [List.length_map, sizeLine_eq]; (first | lia | omega), ?_⟩))))⟩
                exact h
  case pre =>
    clear hwr hrd hce hgn hFw hFr hFc hFg
    clear eA N' F G' KX K0
    rename List Int => ws
    have hws : ws.length ≤ 63 := by (first | lia | omega)
    refine get_W (show startLoc ws "script" = some (.lst (ws.map .int)) from rfl) ⟨63, rfl, cut_L (by rw [List.length_map, sizeLine_eq]; (first | lia | omega)) (listW_lst ?_)⟩
    have e63 : cut (ws.map PV.int) none (some 63) = ws.map PV.int := (cut_hi _ 63).trans (List.take_of_length_le (by rw [List.length_map]; exact hws))
    rw [e63]
    refine get_W (show _ = some (PV.lst (ws.map .int)) from rfl) ⟨1, rfl, cut_L (by rw [List.length_map, sizeLine_eq]; (first | lia | omega)) (listW_lst ?_)⟩
    have e1 : cut (ws.map PV.int) none (some 1) = (ws.take 1).map PV.int := (cut_hi _ 1).trans (List.map_take ..).symm
    rw [e1]
    refine ⟨_, ws.take 1, rfl, rfl, bin_modI (by decide) (bin_addI ?_)⟩
    have h9 := fm_ok (ws.take 1).sum (k := 9) (by decide)
    obtain ⟨wr, hwr, w1, w9⟩ : ∃ wr : Nat, 1 + (ws.take 1).sum.fmod 9 = (wr : Int) ∧ 1 ≤ wr ∧ wr ≤ 9 := ⟨(1 + (ws.take 1).sum.fmod 9).toNat, by (first | lia | omega), by (first | lia | omega), by (first | lia | omega)⟩
    rw [hwr]
    clear hwr h9 e1 e63
    refine ⟨by decide, listW_ref fun a ha => ⟨by decide, listW_ref fun b hb => ⟨by decide, listW_ref fun d hd => ⟨by decide, listW_ref fun e he => ⟨by rw [sizeLine_eq]; simp, listW_lst ?_⟩⟩⟩⟩⟩
    have nn : ∀ {H : LH} {x y : Addr} {l : LO}, (H.set x l) y = none → x ≠ y ∧ H y = none := fun {H x y l} h => by
      have e : x ≠ y := fun e => by rw [e, LH.set_self] at h; cases h
      exact ⟨e, (LH.set_ne _ _ (Ne.symm e)).symm.trans h⟩
    have hab := (nn hb).1
    obtain ⟨hbd, hd'⟩ := nn hd
    have had := (nn hd').1
    obtain ⟨hde, he'⟩ := nn he
    obtain ⟨hbe, he2⟩ := nn he'
    have hae := (nn he2).1
    clear hd' he' he2 ha hb hd he nn
    refine Lp10.mk ws wr a b d e hws w1 w9 (by simp [hab, had, hae, hbd, hbe, hde]) rfl rfl rfl rfl rfl ?A ?B ?D ?E ?Q
    case A => exact (LH.set_ne _ _ hae).trans ((LH.set_ne _ _ had).trans ((LH.set_ne _ _ hab).trans (LH.set_self _ _ _)))
    case B => exact (LH.set_ne _ _ hbe).trans ((LH.set_ne _ _ hbd).trans (LH.set_self _ _ _))
    case D => exact (LH.set_ne _ _ hde).trans (LH.set_self _ _ _)
    case E => exact LH.set_self _ _ _
    case Q =>
      intro σ' rows ok ch hl n1 n2 n3 hA hB
      refine ⟨by decide, listW_ref fun c hc => ?_⟩
      have hac : a ≠ c := fun h => by rw [h] at hA; rw [hA] at hc; cases hc
      have hbc : b ≠ c := fun h => by rw [h] at hB; rw [hB] at hc; cases hc
      exact .mk _ rows wr a b c ok ch hl w1 w9 hbc n1 n2 n3 rfl ((LH.set_ne _ _ hac).trans hA) ((LH.set_ne _ _ hbc).trans hB) (LH.set_self _ _ _)
  case post =>
    intro fl p loc' Z' H' s' k vf hp
    cases hp with
    | mk _ rows wr a b c ok ch hl h1 h9 hbc n1 n2 n3 n4 hA hB hC =>
    cases vf
    clear hwr hce hFw hFc
    have rm : ∀ env, Rm 95 (callerA.deeper env) := fun env => ⟨rfl, (by decide : callerA.depth + 1 + 95 < recursionLimit), (by decide : callerA.units + 3 + 80 + 8 * 95 < cLine)⟩
    have hlt : ((rows.map (Rw.ys wr)).flatten).length ≤ 100000 := by
      rw [(rows_rt wr h1 rows ok).length]
      have := due_len wr rows ok
      (first | lia | omega)
    refine' wpAny_execs_cons (wpAny_For (list_gen (n := 95) (C := 113) (f := 74) (m := 80) (names := ["self", "diffs"]) (pl := ?pl) (tot := (rows.map (Rw.ys wr)).flatten) (Q2 := fun H2 => H2 b = some ⟨true, (rows.map (Rw.due wr)).flatten⟩ ∧ H2 c = some ⟨true, []⟩) G' hFg rfl ?ho ?he ?l1 rfl rfl rfl ?hpg ?hf ?ht ?hk ?hm rfl rfl rfl rfl rfl (rm _) (by decide : callerA.depth + 1 < recursionLimit) ?ga hlt k.sat ?fq fun L s3 Z3 H3 S3 vL q2 keep3 sh3 => ?_) ?fs)
    case fs => intro _; rfl
    case l1 => k_is
    case hpg => k_is
    case hf => k_is
    case ht => k_is
    case hk => k_is
    case hm => rfl
    case ga => exact fun body env' => ⟨⟨rfl, (by show callerA.depth + 1 + 0 + 1 + 80 < recursionLimit; decide), (by show callerA.units + 3 + 1 + 1 + 1 + 0 + 3 + 80 + 8 * 80 < cLine; decide)⟩, rfl, rfl⟩
    case ho =>
      refine' ev_html G' (by decide) rfl rfl ?hes rfl rfl rfl
      case hes => repeat' (first | with_reducible exact ev_int _ _ _ | with_reducible exact ev_str _ _ _ | with_reducible exact ev_none _ _ | with_reducible exact ev_bool _ _ _ | (with_reducible refine' ev_name _ _ ?_ ?_) | (with_reducible refine' ev_binop ?_ ?_) | (with_reducible refine' ev_neg ?_) | (with_reducible refine' ev_cmp ?_ ?_ ?_) | (with_reducible refine' ev_ifexp ?_ ?_ ?_) | (with_reducible refine' ev_list ?_) | (with_reducible refine' ev_tuple ?_) | with_reducible exact es_nil | (with_reducible refine' es_cons ?_ ?_ ?_) | (with_reducible refine' ev_cut ?_ ?_ ?_) | (with_reducible refine' ev_idx ?_ ?_ ?_) | with_reducible exact pt_none | (with_reducible refine' pt_some ?_) | (with_reducible refine' bt_cmp ?_ ?_ ?_) | (with_reducible refine' bt_not ?_) | (with_reducible refine' bt_bool ?_) | with_reducible exact at_and_nil | with_reducible exact at_or_nil | (with_reducible refine' at_and_cons ?_ ?_) | (with_reducible refine' at_or_cons ?_ ?_) | with_reducible exact xs_nil | (with_reducible refine' xs_cons ?_ ?_) | (with_reducible refine' st_assign ?_ ?_ ?_) | (with_reducible refine' st_aug ?_ ?_ ?_) | (with_reducible refine' st_if ?_ ?_ ?_) | (with_reducible refine' st_append ?_ ?_ ?_ ?_ ?_ ?_) | (with_reducible refine' st_augidx ?_ ?_ ?_ ?_) | (with_reducible refine' st_ret ?_) | with_reducible exact st_ret0 | with_reducible exact st_cont | with_reducible exact st_pass | (with_reducible refine' st_while ?_ ?_) | (with_reducible refine' st_for ?_ (as_name ?_) ?_ ?_ ?_) | (with_reducible refine' ev_len (by assumption) ?_ ?_ ?_ ?_ ?_ ?_ ?_ ?_) | (with_reducible refine' ev_chr (by assumption) ?_ ?_ ?_ ?_ ?_ ?_ ?_ ?_) | (with_reducible refine' ev_range (by assumption) ?_ ?_ ?_ ?_ ?_ ?_ ?_ ?_) | (with_reducible refine' ev_abs (by assumption) ?_ ?_ ?_ ?_ ?_ ?_ ?_ ?_) | (with_reducible refine' ev_count _ ?_ ?_ ?_ ?_ ?_) | (with_reducible refine' ev_split _ ?_ ?_ ?_ ?_ ?_) | (with_reducible refine' ev_index _ ?_ ?_ ?_ ?_) | (with_reducible refine' ev_attr (C := 113) (by assumption) ?_ ?_ ?_ ?_ ?_ ?_) | (with_reducible refine' st_forT ?_ (as_tuple3 (as_name ?_) (as_name ?_) (as_name ?_) ?_ ?_) ?_ ?_ ?_) | (rintro _ _ _ ⟨_, _, _, rfl, _⟩; exact ⟨_, rfl⟩) | (with_reducible refine' ev_max (by assumption) ?_ ?_ ?_ ?_ ?_ ?_ ?_ ?_) | (with_reducible refine' ev_sum (by assumption) ?_ ?_ ?_ ?_ ?_ ?_ ?_ ?_) | (with_reducible refine' ev_fn (x := Str.ofString "_law_written") (f := 124) (by assumption) (by assumption) ?_ ?_ ?_ ?_ ?_ ?_ ?_ ?_ ?_) | (with_reducible refine' ev_fn (x := Str.ofString "_law_read") (f := 131) (by assumption) (by assumption) ?_ ?_ ?_ ?_ ?_ ?_ ?_ ?_ ?_) | (with_reducible refine' ev_fn (x := Str.ofString "_law_cells") (f := 136) (by assumption) (by assumption) ?_ ?_ ?_ ?_ ?_ ?_ ?_ ?_ ?_) | with_reducible exact ts_nil | (with_reducible refine' ts_one ?_) | ((with_reducible show nsIn _ _ _ = _); k_is) | ((with_reducible show plainGet _ _ _ = _); k_is) | ((with_reducible show hasDictIn _ _ = _); k_is) | ((with_reducible show findIn _ _ _ = _); k_is) | ((with_reducible show noGet _ _ = _); k_is) | ((with_reducible show Stores _ _); first | exact Or.inl rfl | exact Or.inr ⟨rfl, rfl⟩) | ((with_reducible show (_ == _) = false); decide) | ((with_reducible show behindInMarks _ _ = _); with_unfolding_all rfl) | ((with_reducible show _ ≤ _); decide) | ((with_reducible show _ = _); rfl) | ((with_reducible show ∀ _, _ = _); intro _; rfl) | ((with_reducible show ∀ _ _, _ = _); intro _ _; rfl) | ((with_reducible show ∀ _ _ _, _ = _); intro _ _ _; rfl) | (with_reducible refine' bt_val ?_ ?_))
    case he => repeat' (first | with_reducible exact ev_int _ _ _ | with_reducible exact ev_str _ _ _ | with_reducible exact ev_none _ _ | with_reducible exact ev_bool _ _ _ | (with_reducible refine' ev_name _ _ ?_ ?_) | (with_reducible refine' ev_binop ?_ ?_) | (with_reducible refine' ev_neg ?_) | (with_reducible refine' ev_cmp ?_ ?_ ?_) | (with_reducible refine' ev_ifexp ?_ ?_ ?_) | (with_reducible refine' ev_list ?_) | (with_reducible refine' ev_tuple ?_) | with_reducible exact es_nil | (with_reducible refine' es_cons ?_ ?_ ?_) | (with_reducible refine' ev_cut ?_ ?_ ?_) | (with_reducible refine' ev_idx ?_ ?_ ?_) | with_reducible exact pt_none | (with_reducible refine' pt_some ?_) | (with_reducible refine' bt_cmp ?_ ?_ ?_) | (with_reducible refine' bt_not ?_) | (with_reducible refine' bt_bool ?_) | with_reducible exact at_and_nil | with_reducible exact at_or_nil | (with_reducible refine' at_and_cons ?_ ?_) | (with_reducible refine' at_or_cons ?_ ?_) | with_reducible exact xs_nil | (with_reducible refine' xs_cons ?_ ?_) | (with_reducible refine' st_assign ?_ ?_ ?_) | (with_reducible refine' st_aug ?_ ?_ ?_) | (with_reducible refine' st_if ?_ ?_ ?_) | (with_reducible refine' st_append ?_ ?_ ?_ ?_ ?_ ?_) | (with_reducible refine' st_augidx ?_ ?_ ?_ ?_) | (with_reducible refine' st_ret ?_) | with_reducible exact st_ret0 | with_reducible exact st_cont | with_reducible exact st_pass | (with_reducible refine' st_while ?_ ?_) | (with_reducible refine' st_for ?_ (as_name ?_) ?_ ?_ ?_) | (with_reducible refine' ev_len (by assumption) ?_ ?_ ?_ ?_ ?_ ?_ ?_ ?_) | (with_reducible refine' ev_chr (by assumption) ?_ ?_ ?_ ?_ ?_ ?_ ?_ ?_) | (with_reducible refine' ev_range (by assumption) ?_ ?_ ?_ ?_ ?_ ?_ ?_ ?_) | (with_reducible refine' ev_abs (by assumption) ?_ ?_ ?_ ?_ ?_ ?_ ?_ ?_) | (with_reducible refine' ev_count _ ?_ ?_ ?_ ?_ ?_) | (with_reducible refine' ev_split _ ?_ ?_ ?_ ?_ ?_) | (with_reducible refine' ev_index _ ?_ ?_ ?_ ?_) | (with_reducible refine' ev_attr (C := 113) (by assumption) ?_ ?_ ?_ ?_ ?_ ?_) | (with_reducible refine' st_forT ?_ (as_tuple3 (as_name ?_) (as_name ?_) (as_name ?_) ?_ ?_) ?_ ?_ ?_) | (rintro _ _ _ ⟨_, _, _, rfl, _⟩; exact ⟨_, rfl⟩) | (with_reducible refine' ev_max (by assumption) ?_ ?_ ?_ ?_ ?_ ?_ ?_ ?_) | (with_reducible refine' ev_sum (by assumption) ?_ ?_ ?_ ?_ ?_ ?_ ?_ ?_) | (with_reducible refine' ev_fn (x := Str.ofString "_law_written") (f := 124) (by assumption) (by assumption) ?_ ?_ ?_ ?_ ?_ ?_ ?_ ?_ ?_) | (with_reducible refine' ev_fn (x := Str.ofString "_law_read") (f := 131) (by assumption) (by assumption) ?_ ?_ ?_ ?_ ?_ ?_ ?_ ?_ ?_) | (with_reducible refine' ev_fn (x := Str.ofString "_law_cells") (f := 136) (by assumption) (by assumption) ?_ ?_ ?_ ?_ ?_ ?_ ?_ ?_ ?_) | with_reducible exact ts_nil | (with_reducible refine' ts_one ?_) | ((with_reducible show nsIn _ _ _ = _); k_is) | ((with_reducible show plainGet _ _ _ = _); k_is) | ((with_reducible show hasDictIn _ _ = _); k_is) | ((with_reducible show findIn _ _ _ = _); k_is) | ((with_reducible show noGet _ _ = _); k_is) | ((with_reducible show Stores _ _); first | exact Or.inl rfl | exact Or.inr ⟨rfl, rfl⟩) | ((with_reducible show (_ == _) = false); decide) | ((with_reducible show behindInMarks _ _ = _); with_unfolding_all rfl) | ((with_reducible show _ ≤ _); decide) | ((with_reducible show _ = _); rfl) | ((with_reducible show ∀ _, _ = _); intro _; rfl) | ((with_reducible show ∀ _ _, _ = _); intro _ _; rfl) | ((with_reducible show ∀ _ _ _, _ = _); intro _ _ _; rfl) | (with_reducible refine' bt_val ?_ ?_))
    case fq =>
      refine get_W n1 ⟨8, wr, rfl, _, rfl, rfl, get_W n2 ⟨a, _, rfl, hA, hgn rows wr _ h1 h9 ok rfl rfl, hB, hC⟩⟩
    obtain ⟨hB3, hC3⟩ := q2
    clear hA hB hC hgn hFg n1 n2
    refine' iter_T (n := 90) (Q := fun fl σ => fl = .next ∧ σ.loc "told" = some (.ref c) ∧ σ.loc "due" = some (.ref b) ∧ σ.H c = some ⟨true, (rows.map (Rw.due wr)).flatten⟩ ∧ σ.H b = some ⟨true, (rows.map (Rw.due wr)).flatten⟩) ((rm _).le (by decide)) S3 vL ?ta ?tf ?tb ?tq (fun fl p loc4 Z4 H4 s4 K4 vf f4 => ?_)
    case ta =>
      with_reducible refine' as_tuple3 (as_name ?r1) (as_name ?r2) (as_name ?r3) ?r4 ?r5
      case r1 => first | exact Or.inl rfl | exact Or.inr ⟨rfl, rfl⟩
      case r2 => first | exact Or.inl rfl | exact Or.inr ⟨rfl, rfl⟩
      case r3 => first | exact Or.inl rfl | exact Or.inr ⟨rfl, rfl⟩
      case r4 => rfl
      case r5 => rfl
    case tf =>
      rintro _ _ _ ⟨_, _, _, rfl, _⟩; exact ⟨_, rfl⟩
    case tb =>
      with_reducible refine' xs_cons (st_if ?v0 ?v1 ?v2) xs_nil
      case v0 => repeat' (first | with_reducible exact ev_int _ _ _ | with_reducible exact ev_str _ _ _ | with_reducible exact ev_none _ _ | with_reducible exact ev_bool _ _ _ | (with_reducible refine' ev_name _ _ ?_ ?_) | (with_reducible refine' ev_binop ?_ ?_) | (with_reducible refine' ev_neg ?_) | (with_reducible refine' ev_cmp ?_ ?_ ?_) | (with_reducible refine' ev_ifexp ?_ ?_ ?_) | (with_reducible refine' ev_list ?_) | (with_reducible refine' ev_tuple ?_) | with_reducible exact es_nil | (with_reducible refine' es_cons ?_ ?_ ?_) | (with_reducible refine' ev_cut ?_ ?_ ?_) | (with_reducible refine' ev_idx ?_ ?_ ?_) | with_reducible exact pt_none | (with_reducible refine' pt_some ?_) | (with_reducible refine' bt_cmp ?_ ?_ ?_) | (with_reducible refine' bt_not ?_) | (with_reducible refine' bt_bool ?_) | with_reducible exact at_and_nil | with_reducible exact at_or_nil | (with_reducible refine' at_and_cons ?_ ?_) | (with_reducible refine' at_or_cons ?_ ?_) | with_reducible exact xs_nil | (with_reducible refine' xs_cons ?_ ?_) | (with_reducible refine' st_assign ?_ ?_ ?_) | (with_reducible refine' st_aug ?_ ?_ ?_) | (with_reducible refine' st_if ?_ ?_ ?_) | (with_reducible refine' st_append ?_ ?_ ?_ ?_ ?_ ?_) | (with_reducible refine' st_augidx ?_ ?_ ?_ ?_) | (with_reducible refine' st_ret ?_) | with_reducible exact st_ret0 | with_reducible exact st_cont | with_reducible exact st_pass | (with_reducible refine' st_while ?_ ?_) | (with_reducible refine' st_for ?_ (as_name ?_) ?_ ?_ ?_) | (with_reducible refine' ev_len (by assumption) ?_ ?_ ?_ ?_ ?_ ?_ ?_ ?_) | (with_reducible refine' ev_chr (by assumption) ?_ ?_ ?_ ?_ ?_ ?_ ?_ ?_) | (with_reducible refine' ev_range (by assumption) ?_ ?_ ?_ ?_ ?_ ?_ ?_ ?_) | (with_reducible refine' ev_abs (by assumption) ?_ ?_ ?_ ?_ ?_ ?_ ?_ ?_) | (with_reducible refine' ev_count _ ?_ ?_ ?_ ?_ ?_) | (with_reducible refine' ev_split _ ?_ ?_ ?_ ?_ ?_) | (with_reducible refine' ev_index _ ?_ ?_ ?_ ?_) | (with_reducible refine' ev_attr (C := 113) (by assumption) ?_ ?_ ?_ ?_ ?_ ?_) | (with_reducible refine' st_forT ?_ (as_tuple3 (as_name ?_) (as_name ?_) (as_name ?_) ?_ ?_) ?_ ?_ ?_) | (rintro _ _ _ ⟨_, _, _, rfl, _⟩; exact ⟨_, rfl⟩) | (with_reducible refine' ev_max (by assumption) ?_ ?_ ?_ ?_ ?_ ?_ ?_ ?_) | (with_reducible refine' ev_sum (by assumption) ?_ ?_ ?_ ?_ ?_ ?_ ?_ ?_) | (with_reducible refine' ev_fn (x := Str.ofString "_law_written") (f := 124) (by assumption) (by assumption) ?_ ?_ ?_ ?_ ?_ ?_ ?_ ?_ ?_) | (with_reducible refine' ev_fn (x := Str.ofString "_law_read") (f := 131) (by assumption) (by assumption) ?_ ?_ ?_ ?_ ?_ ?_ ?_ ?_ ?_) | (with_reducible refine' ev_fn (x := Str.ofString "_law_cells") (f := 136) (by assumption) (by assumption) ?_ ?_ ?_ ?_ ?_ ?_ ?_ ?_ ?_) | with_reducible exact ts_nil | (with_reducible refine' ts_one ?_) | ((with_reducible show nsIn _ _ _ = _); k_is) | ((with_reducible show plainGet _ _ _ = _); k_is) | ((with_reducible show hasDictIn _ _ = _); k_is) | ((with_reducible show findIn _ _ _ = _); k_is) | ((with_reducible show noGet _ _ = _); k_is) | ((with_reducible show Stores _ _); first | exact Or.inl rfl | exact Or.inr ⟨rfl, rfl⟩) | ((with_reducible show (_ == _) = false); decide) | ((with_reducible show behindInMarks _ _ = _); with_unfolding_all rfl) | ((with_reducible show _ ≤ _); decide) | ((with_reducible show _ = _); rfl) | ((with_reducible show ∀ _, _ = _); intro _; rfl) | ((with_reducible show ∀ _ _, _ = _); intro _ _; rfl) | ((with_reducible show ∀ _ _ _, _ = _); intro _ _ _; rfl) | (with_reducible refine' bt_val ?_ ?_))
      case v1 => repeat' (first | with_reducible exact ev_int _ _ _ | with_reducible exact ev_str _ _ _ | with_reducible exact ev_none _ _ | with_reducible exact ev_bool _ _ _ | (with_reducible refine' ev_name _ _ ?_ ?_) | (with_reducible refine' ev_binop ?_ ?_) | (with_reducible refine' ev_neg ?_) | (with_reducible refine' ev_cmp ?_ ?_ ?_) | (with_reducible refine' ev_ifexp ?_ ?_ ?_) | (with_reducible refine' ev_list ?_) | (with_reducible refine' ev_tuple ?_) | with_reducible exact es_nil | (with_reducible refine' es_cons ?_ ?_ ?_) | (with_reducible refine' ev_cut ?_ ?_ ?_) | (with_reducible refine' ev_idx ?_ ?_ ?_) | with_reducible exact pt_none | (with_reducible refine' pt_some ?_) | (with_reducible refine' bt_cmp ?_ ?_ ?_) | (with_reducible refine' bt_not ?_) | (with_reducible refine' bt_bool ?_) | with_reducible exact at_and_nil | with_reducible exact at_or_nil | (with_reducible refine' at_and_cons ?_ ?_) | (with_reducible refine' at_or_cons ?_ ?_) | with_reducible exact xs_nil | (with_reducible refine' xs_cons ?_ ?_) | (with_reducible refine' st_assign ?_ ?_ ?_) | (with_reducible refine' st_aug ?_ ?_ ?_) | (with_reducible refine' st_if ?_ ?_ ?_) | (with_reducible refine' st_append ?_ ?_ ?_ ?_ ?_ ?_) | (with_reducible refine' st_augidx ?_ ?_ ?_ ?_) | (with_reducible refine' st_ret ?_) | with_reducible exact st_ret0 | with_reducible exact st_cont | with_reducible exact st_pass | (with_reducible refine' st_while ?_ ?_) | (with_reducible refine' st_for ?_ (as_name ?_) ?_ ?_ ?_) | (with_reducible refine' ev_len (by assumption) ?_ ?_ ?_ ?_ ?_ ?_ ?_ ?_) | (with_reducible refine' ev_chr (by assumption) ?_ ?_ ?_ ?_ ?_ ?_ ?_ ?_) | (with_reducible refine' ev_range (by assumption) ?_ ?_ ?_ ?_ ?_ ?_ ?_ ?_) | (with_reducible refine' ev_abs (by assumption) ?_ ?_ ?_ ?_ ?_ ?_ ?_ ?_) | (with_reducible refine' ev_count _ ?_ ?_ ?_ ?_ ?_) | (with_reducible refine' ev_split _ ?_ ?_ ?_ ?_ ?_) | (with_reducible refine' ev_index _ ?_ ?_ ?_ ?_) | (with_reducible refine' ev_attr (C := 113) (by assumption) ?_ ?_ ?_ ?_ ?_ ?_) | (with_reducible refine' st_forT ?_ (as_tuple3 (as_name ?_) (as_name ?_) (as_name ?_) ?_ ?_) ?_ ?_ ?_) | (rintro _ _ _ ⟨_, _, _, rfl, _⟩; exact ⟨_, rfl⟩) | (with_reducible refine' ev_max (by assumption) ?_ ?_ ?_ ?_ ?_ ?_ ?_ ?_) | (with_reducible refine' ev_sum (by assumption) ?_ ?_ ?_ ?_ ?_ ?_ ?_ ?_) | (with_reducible refine' ev_fn (x := Str.ofString "_law_written") (f := 124) (by assumption) (by assumption) ?_ ?_ ?_ ?_ ?_ ?_ ?_ ?_ ?_) | (with_reducible refine' ev_fn (x := Str.ofString "_law_read") (f := 131) (by assumption) (by assumption) ?_ ?_ ?_ ?_ ?_ ?_ ?_ ?_ ?_) | (with_reducible refine' ev_fn (x := Str.ofString "_law_cells") (f := 136) (by assumption) (by assumption) ?_ ?_ ?_ ?_ ?_ ?_ ?_ ?_ ?_) | with_reducible exact ts_nil | (with_reducible refine' ts_one ?_) | ((with_reducible show nsIn _ _ _ = _); k_is) | ((with_reducible show plainGet _ _ _ = _); k_is) | ((with_reducible show hasDictIn _ _ = _); k_is) | ((with_reducible show findIn _ _ _ = _); k_is) | ((with_reducible show noGet _ _ = _); k_is) | ((with_reducible show Stores _ _); first | exact Or.inl rfl | exact Or.inr ⟨rfl, rfl⟩) | ((with_reducible show (_ == _) = false); decide) | ((with_reducible show behindInMarks _ _ = _); with_unfolding_all rfl) | ((with_reducible show _ ≤ _); decide) | ((with_reducible show _ = _); rfl) | ((with_reducible show ∀ _, _ = _); intro _; rfl) | ((with_reducible show ∀ _ _, _ = _); intro _ _; rfl) | ((with_reducible show ∀ _ _ _, _ = _); intro _ _ _; rfl) | (with_reducible refine' bt_val ?_ ?_))
      case v2 => repeat' (first | with_reducible exact ev_int _ _ _ | with_reducible exact ev_str _ _ _ | with_reducible exact ev_none _ _ | with_reducible exact ev_bool _ _ _ | (with_reducible refine' ev_name _ _ ?_ ?_) | (with_reducible refine' ev_binop ?_ ?_) | (with_reducible refine' ev_neg ?_) | (with_reducible refine' ev_cmp ?_ ?_ ?_) | (with_reducible refine' ev_ifexp ?_ ?_ ?_) | (with_reducible refine' ev_list ?_) | (with_reducible refine' ev_tuple ?_) | with_reducible exact es_nil | (with_reducible refine' es_cons ?_ ?_ ?_) | (with_reducible refine' ev_cut ?_ ?_ ?_) | (with_reducible refine' ev_idx ?_ ?_ ?_) | with_reducible exact pt_none | (with_reducible refine' pt_some ?_) | (with_reducible refine' bt_cmp ?_ ?_ ?_) | (with_reducible refine' bt_not ?_) | (with_reducible refine' bt_bool ?_) | with_reducible exact at_and_nil | with_reducible exact at_or_nil | (with_reducible refine' at_and_cons ?_ ?_) | (with_reducible refine' at_or_cons ?_ ?_) | with_reducible exact xs_nil | (with_reducible refine' xs_cons ?_ ?_) | (with_reducible refine' st_assign ?_ ?_ ?_) | (with_reducible refine' st_aug ?_ ?_ ?_) | (with_reducible refine' st_if ?_ ?_ ?_) | (with_reducible refine' st_append ?_ ?_ ?_ ?_ ?_ ?_) | (with_reducible refine' st_augidx ?_ ?_ ?_ ?_) | (with_reducible refine' st_ret ?_) | with_reducible exact st_ret0 | with_reducible exact st_cont | with_reducible exact st_pass | (with_reducible refine' st_while ?_ ?_) | (with_reducible refine' st_for ?_ (as_name ?_) ?_ ?_ ?_) | (with_reducible refine' ev_len (by assumption) ?_ ?_ ?_ ?_ ?_ ?_ ?_ ?_) | (with_reducible refine' ev_chr (by assumption) ?_ ?_ ?_ ?_ ?_ ?_ ?_ ?_) | (with_reducible refine' ev_range (by assumption) ?_ ?_ ?_ ?_ ?_ ?_ ?_ ?_) | (with_reducible refine' ev_abs (by assumption) ?_ ?_ ?_ ?_ ?_ ?_ ?_ ?_) | (with_reducible refine' ev_count _ ?_ ?_ ?_ ?_ ?_) | (with_reducible refine' ev_split _ ?_ ?_ ?_ ?_ ?_) | (with_reducible refine' ev_index _ ?_ ?_ ?_ ?_) | (with_reducible refine' ev_attr (C := 113) (by assumption) ?_ ?_ ?_ ?_ ?_ ?_) | (with_reducible refine' st_forT ?_ (as_tuple3 (as_name ?_) (as_name ?_) (as_name ?_) ?_ ?_) ?_ ?_ ?_) | (rintro _ _ _ ⟨_, _, _, rfl, _⟩; exact ⟨_, rfl⟩) | (with_reducible refine' ev_max (by assumption) ?_ ?_ ?_ ?_ ?_ ?_ ?_ ?_) | (with_reducible refine' ev_sum (by assumption) ?_ ?_ ?_ ?_ ?_ ?_ ?_ ?_) | (with_reducible refine' ev_fn (x := Str.ofString "_law_written") (f := 124) (by assumption) (by assumption) ?_ ?_ ?_ ?_ ?_ ?_ ?_ ?_ ?_) | (with_reducible refine' ev_fn (x := Str.ofString "_law_read") (f := 131) (by assumption) (by assumption) ?_ ?_ ?_ ?_ ?_ ?_ ?_ ?_ ?_) | (with_reducible refine' ev_fn (x := Str.ofString "_law_cells") (f := 136) (by assumption) (by assumption) ?_ ?_ ?_ ?_ ?_ ?_ ?_ ?_ ?_) | with_reducible exact ts_nil | (with_reducible refine' ts_one ?_) | ((with_reducible show nsIn _ _ _ = _); k_is) | ((with_reducible show plainGet _ _ _ = _); k_is) | ((with_reducible show hasDictIn _ _ = _); k_is) | ((with_reducible show findIn _ _ _ = _); k_is) | ((with_reducible show noGet _ _ = _); k_is) | ((with_reducible show Stores _ _); first | exact Or.inl rfl | exact Or.inr ⟨rfl, rfl⟩) | ((with_reducible show (_ == _) = false); decide) | ((with_reducible show behindInMarks _ _ = _); with_unfolding_all rfl) | ((with_reducible show _ ≤ _); decide) | ((with_reducible show _ = _); rfl) | ((with_reducible show ∀ _, _ = _); intro _; rfl) | ((with_reducible show ∀ _ _, _ = _); intro _ _; rfl) | ((with_reducible show ∀ _ _ _, _ = _); intro _ _ _; rfl) | (with_reducible refine' bt_val ?_ ?_))
    case tq =>
      refine forW_inv (fun rest σ => ∃ D X, Paired Rt rest X ∧ D ++ X = (rows.map (Rw.due wr)).flatten ∧ σ.loc "told" = some (.ref c) ∧ σ.loc "due" = some (.ref b) ∧ σ.H c = some ⟨true, D⟩ ∧ σ.H b = some ⟨true, (rows.map (Rw.due wr)).flatten⟩) ?is ?ie _ _ ⟨[], _, rows_rt wr h1 rows ok, rfl, n4, n3, hC3, hB3⟩
      case ie =>
        rintro σ ⟨D, X, hp, e, m1, m2, m3, m4⟩
        rw [Paired.nil_inv hp, List.append_nil] at e
        exact ⟨rfl, m1, m2, by rw [m3, e], m4⟩
      case is =>
        rintro p rs σ K' ⟨D, X, hp, e, m1, m2, m3, m4⟩ kn _
        obtain ⟨y, X', rfl, hy, hr⟩ := Paired.cons_inv hp
        have hDl : D.length ≤ 5000 := by
          have := congrArg List.length e
          rw [List.length_append] at this
          have := due_len wr rows ok
          (first | lia | omega)
        have go : ∀ (l : Loc), l "told" = some (.ref c) → l "due" = some (.ref b) → K' .next ⟨l, σ.H.set c ⟨true, D ++ [y]⟩⟩ := fun l e1 e2 =>
          kn _ ⟨D ++ [y], X', hr, by rw [← e, List.append_assoc]; rfl, e1, e2, LH.set_self _ _ _, (LH.set_ne _ _ hbc).trans m4⟩
        clear kn
        cases hy with
        | sep =>
          refine ⟨_, _, _, rfl, get_W (show _ = some PV.none from rfl) (cmp_isN (PySem.W.ite_pos rfl (get_W (show _ = some (PV.ref c) from m1) ⟨c, _, rfl, m3, get_W rfl (get_W rfl (get_W rfl ⟨by rw [sizeLine_eq]; simp, _, m3, by rw [sizeLine_eq]; (first | lia | omega), go _ m1 m2⟩))⟩)))⟩
        | row fl hx hy =>
          cases hx with
          | mk a1 A1 p1 q1 r1 =>
          cases hy with
          | mk a2 A2 p2 q2 r2 =>
          refine ⟨_, _, _, rfl, get_W (show _ = some (PV.bool fl) from rfl) (cmp_isB (PySem.W.ite_neg (by decide) (get_W (show _ = some (PV.ref c) from m1) ⟨c, _, rfl, m3, ?_⟩)))⟩
          refine get_W rfl (idx_T (k := 0) rfl (by simp) (get_W rfl (idx_T (k := 1) rfl (by simp) ⟨rfl, hrd A1 _ _ p1 q1 r1 ⟨by rw [sizeLine_eq]; simp, ?_⟩⟩)))
          refine get_W rfl (idx_T (k := 0) rfl (by simp) (get_W rfl (idx_T (k := 1) rfl (by simp) ⟨rfl, hrd A2 _ _ p2 q2 r2 ⟨by rw [sizeLine_eq]; simp, ?_⟩⟩)))
          exact get_W (show _ = some (PV.bool fl) from rfl) ⟨by rw [sizeLine_eq]; simp, _, m3, by rw [sizeLine_eq]; (first | lia | omega), go _ m1 m2⟩
    clear hFr hrd
    obtain ⟨rfl, o1, o2, o3, o4⟩ := f4
    cases vf
    refine' wpAny_execs_cons (wpAny_Return_some ?_)
    refine' EvOk.use (n := 90) (Q := fun p H => p = .bool true) ?hE2 ((rm _).le (by decide)) K4.sat ?f2 ?q2
    case hE2 => repeat' (first | with_reducible exact ev_int _ _ _ | with_reducible exact ev_str _ _ _ | with_reducible exact ev_none _ _ | with_reducible exact ev_bool _ _ _ | (with_reducible refine' ev_name _ _ ?_ ?_) | (with_reducible refine' ev_binop ?_ ?_) | (with_reducible refine' ev_neg ?_) | (with_reducible refine' ev_cmp ?_ ?_ ?_) | (with_reducible refine' ev_ifexp ?_ ?_ ?_) | (with_reducible refine' ev_list ?_) | (with_reducible refine' ev_tuple ?_) | with_reducible exact es_nil | (with_reducible refine' es_cons ?_ ?_ ?_) | (with_reducible refine' ev_cut ?_ ?_ ?_) | (with_reducible refine' ev_idx ?_ ?_ ?_) | with_reducible exact pt_none | (with_reducible refine' pt_some ?_) | (with_reducible refine' bt_cmp ?_ ?_ ?_) | (with_reducible refine' bt_not ?_) | (with_reducible refine' bt_bool ?_) | with_reducible exact at_and_nil | with_reducible exact at_or_nil | (with_reducible refine' at_and_cons ?_ ?_) | (with_reducible refine' at_or_cons ?_ ?_) | with_reducible exact xs_nil | (with_reducible refine' xs_cons ?_ ?_) | (with_reducible refine' st_assign ?_ ?_ ?_) | (with_reducible refine' st_aug ?_ ?_ ?_) | (with_reducible refine' st_if ?_ ?_ ?_) | (with_reducible refine' st_append ?_ ?_ ?_ ?_ ?_ ?_) | (with_reducible refine' st_augidx ?_ ?_ ?_ ?_) | (with_reducible refine' st_ret ?_) | with_reducible exact st_ret0 | with_reducible exact st_cont | with_reducible exact st_pass | (with_reducible refine' st_while ?_ ?_) | (with_reducible refine' st_for ?_ (as_name ?_) ?_ ?_ ?_) | (with_reducible refine' ev_len (by assumption) ?_ ?_ ?_ ?_ ?_ ?_ ?_ ?_) | (with_reducible refine' ev_chr (by assumption) ?_ ?_ ?_ ?_ ?_ ?_ ?_ ?_) | (with_reducible refine' ev_range (by assumption) ?_ ?_ ?_ ?_ ?_ ?_ ?_ ?_) | (with_reducible refine' ev_abs (by assumption) ?_ ?_ ?_ ?_ ?_ ?_ ?_ ?_) | (with_reducible refine' ev_count _ ?_ ?_ ?_ ?_ ?_) | (with_reducible refine' ev_split _ ?_ ?_ ?_ ?_ ?_) | (with_reducible refine' ev_index _ ?_ ?_ ?_ ?_) | (with_reducible refine' ev_attr (C := 113) (by assumption) ?_ ?_ ?_ ?_ ?_ ?_) | (with_reducible refine' st_forT ?_ (as_tuple3 (as_name ?_) (as_name ?_) (as_name ?_) ?_ ?_) ?_ ?_ ?_) | (rintro _ _ _ ⟨_, _, _, rfl, _⟩; exact ⟨_, rfl⟩) | (with_reducible refine' ev_max (by assumption) ?_ ?_ ?_ ?_ ?_ ?_ ?_ ?_) | (with_reducible refine' ev_sum (by assumption) ?_ ?_ ?_ ?_ ?_ ?_ ?_ ?_) | (with_reducible refine' ev_fn (x := Str.ofString "_law_written") (f := 124) (by assumption) (by assumption) ?_ ?_ ?_ ?_ ?_ ?_ ?_ ?_ ?_) | (with_reducible refine' ev_fn (x := Str.ofString "_law_read") (f := 131) (by assumption) (by assumption) ?_ ?_ ?_ ?_ ?_ ?_ ?_ ?_ ?_) | (with_reducible refine' ev_fn (x := Str.ofString "_law_cells") (f := 136) (by assumption) (by assumption) ?_ ?_ ?_ ?_ ?_ ?_ ?_ ?_ ?_) | with_reducible exact ts_nil | (with_reducible refine' ts_one ?_) | ((with_reducible show nsIn _ _ _ = _); k_is) | ((with_reducible show plainGet _ _ _ = _); k_is) | ((with_reducible show hasDictIn _ _ = _); k_is) | ((with_reducible show findIn _ _ _ = _); k_is) | ((with_reducible show noGet _ _ = _); k_is) | ((with_reducible show Stores _ _); first | exact Or.inl rfl | exact Or.inr ⟨rfl, rfl⟩) | ((with_reducible show (_ == _) = false); decide) | ((with_reducible show behindInMarks _ _ = _); with_unfolding_all rfl) | ((with_reducible show _ ≤ _); decide) | ((with_reducible show _ = _); rfl) | ((with_reducible show ∀ _, _ = _); intro _; rfl) | ((with_reducible show ∀ _ _, _ = _); intro _ _; rfl) | ((with_reducible show ∀ _ _ _, _ = _); intro _ _ _; rfl) | (with_reducible refine' bt_val ?_ ?_))
    case f2 => exact get_W o1 (get_W o2 (same_refs o3 o4 rfl (due_gd wr rows ch) rfl))
    case q2 =>
      intro v p Z5 H5 s5 k5 v5 hp
      subst hp
      cases v5
      obtain ⟨m5, hm5, _⟩ := k5.sat.ns
      have keep5 := k5.sat.keep
      have e0 := k.sh
      have e4 := K4.sh
      have e5 := k5.kp
      have hab := F.above
      clear k5 K4 k S3 vL hB3 hC3 keep3 o1 o2 o3 o4 F eA N'
      obtain ⟨hk5, tk5, rfl, _⟩ := e5
      obtain ⟨hk4, tk4, rfl⟩ := e4
      obtain ⟨hk3, tk3, rfl⟩ := sh3
      obtain ⟨hk0, tk0, rfl⟩ := e0
      rename List Int => ws
      have g : GoodW ownRow.row.claim (classAt s₀.heap) (ExcName.means s₀.heap) [ofPy (PyData.list (ws.map PyData.int))] s₁ (.ok (.ret (.bool true))) { s₁ with heap := hk5, toks := tk5 } := by
        refine goodW_bool ⟨hm5, keep5, hab⟩ hg ?_ ?_ rfl
        · intro cls; rfl
        · first | wrow_post | kc_post
      refine ⟨g.1, .of_keep g.2.1, rfl, ?_⟩
      exact (AllBare.of_eq hg).push rfl)
end Mine
end

theorem PySem.Challenge.cw_dm0063_10_holds : PySem.Challenge.rw_dm0063_10.Holds := by
  have h := Mine.law10
  rw [Mine.ownRow_eq] at h
  exact h
