import PyProof.Rows.All
import Wide.All
import OpenK.AllK
import Wide.FinOn
import PySem.Challenge.RW_dm0063_11
open PySem PySem.W PyProof.Rows PySem.Calls
set_option Elab.async false
set_option maxRecDepth 100000
set_option maxHeartbeats 8000000
section
namespace Mine
/-- while hypotheses are taken apart the goal is a variable: the motives stay small -/
theorem hide {P : Prop} (h : ∀ G : Prop, (P → G) → G) : P := h P id
set_option genSizeOf false in
set_option genInjectivity false in
/-- plain values -/
inductive PV where
  | none
  | bool (b : Bool)
  | int (i : Int)
  | str (x : Str)
  | ref (a : Addr)
  | tup (xs : List PV)
  | lst (xs : List PV)
  | rng (a b c : Int)
  | obj (C : Addr) (fs : List (String × PV))
  | raw (v : Value)
abbrev Zm := Addr → Option Obj
set_option genSizeOf false in
set_option genInjectivity false in
mutual
inductive VR (Z : Zm) : PV → Value → Prop
  | none : VR Z .none .none
  | bool (b : Bool) : VR Z (.bool b) (.bool b)
  | int (i : Int) (t : Tok) : VR Z (.int i) (.int i t)
  | str (x : Str) (t : Tok) : VR Z (.str x) (.str x t)
  | ref (a : Addr) : VR Z (.ref a) (.ref a)
  | raw (v : Value) : VR Z (.raw v) v
  | tup {a : Addr} {vs : List Value} {n : Nat} {xs : List PV} : Z a = some { cls := .type "tuple", data := .seq vs.toArray n } → VRs Z xs vs → VR Z (.tup xs) (.ref a)
  | lst {a : Addr} {vs : List Value} {n : Nat} {xs : List PV} : Z a = some { cls := .type "list", data := .seq vs.toArray n } → VRs Z xs vs → VR Z (.lst xs) (.ref a)
  | rng {r : Addr} {a b c : Int} {t u v : Tok} : Z r = some { cls := .type "range", dict := Option.none, data := .fields #[.int a t, .int b u, .int c v], slots := #[] } → VR Z (.rng a b c) (.ref r)
  | obj {x C dx : Addr} {es : List DictEntry} {n : Nat} {fs : List (String × PV)} : Z x = some (instObj C dx) → Z dx = some (dictOf es n) → FRs Z fs es → VR Z (.obj C fs) (.ref x)
inductive VRs (Z : Zm) : List PV → List Value → Prop
  | nil : VRs Z [] []
  | cons {x : PV} {v : Value} {xs : List PV} {vs : List Value} : VR Z x v → VRs Z xs vs → VRs Z (x :: xs) (v :: vs)
inductive FRs (Z : Zm) : List (String × PV) → List DictEntry → Prop
  | nil : FRs Z [] []
  | cons {f : String} {x : PV} {hs : Int} {t : Tok} {v : Value} {fs : List (String × PV)} {es : List DictEntry} : VR Z x v → handedIn v = true → FRs Z fs es → FRs Z ((f, x) :: fs) (⟨hs, .str (Str.ofString f) t, v⟩ :: es)
end

noncomputable def Zle (Z Z' : Zm) : Prop := ∀ a o, Z a = some o → Z' a = some o
theorem Zle.refl (Z : Zm) : Zle Z Z := fun _ _ e => e
theorem Zle.trans {Z₁ Z₂ Z₃ : Zm} (h : Zle Z₁ Z₂) (k : Zle Z₂ Z₃) : Zle Z₁ Z₃ := fun a o e => k a o (h a o e)
mutual
theorem VR.mono {Z Z' : Zm} (h : Zle Z Z') : ∀ {x : PV} {v : Value}, VR Z x v → VR Z' x v
  | _, _, .none => .none
  | _, _, .bool b => .bool b
  | _, _, .int i t => .int i t
  | _, _, .str x t => .str x t
  | _, _, .ref a => .ref a
  | _, _, .raw v => .raw v
  | _, _, .tup e r => .tup (h _ _ e) (VRs.mono h r)
  | _, _, .lst e r => .lst (h _ _ e) (VRs.mono h r)
  | _, _, .rng e => .rng (h _ _ e)
  | _, _, .obj e d r => .obj (h _ _ e) (h _ _ d) (FRs.mono h r)
theorem VRs.mono {Z Z' : Zm} (h : Zle Z Z') : ∀ {x : List PV} {v : List Value}, VRs Z x v → VRs Z' x v
  | _, _, .nil => .nil
  | _, _, .cons e r => .cons (VR.mono h e) (VRs.mono h r)
theorem FRs.mono {Z Z' : Zm} (h : Zle Z Z') : ∀ {x : List (String × PV)} {v : List DictEntry}, FRs Z x v → FRs Z' x v
  | _, _, .nil => .nil
  | _, _, .cons e k r => .cons (VR.mono h e) k (FRs.mono h r)
end

section
variable {Z : Zm}
theorem VRs.length {xs : List PV} {vs : List Value} (h : VRs Z xs vs) : vs.length = xs.length := by
  induction xs generalizing vs with
  | nil => cases h; rfl
  | cons x xs ih => cases h with | cons _ r => rw [List.length_cons, List.length_cons, ih r]
theorem VRs.append {xs ys : List PV} {vs ws : List Value} (h : VRs Z xs vs) (k : VRs Z ys ws) : VRs Z (xs ++ ys) (vs ++ ws) := by
  induction xs generalizing vs with
  | nil => cases h; exact k
  | cons x xs ih => cases h with | cons a r => exact .cons a (ih r)
theorem VRs.get {xs : List PV} {vs : List Value} (h : VRs Z xs vs) {i : Nat} {x : PV} (hx : xs[i]? = some x) : ∃ v, vs[i]? = some v ∧ VR Z x v := by
  induction xs generalizing vs i with
  | nil => cases hx
  | cons y xs ih =>
    cases h with
    | cons a r =>
      cases i with
      | zero => cases hx; exact ⟨_, rfl, a⟩
      | succ i => exact ih r hx
theorem VRs.get' {xs : List PV} {vs : List Value} (h : VRs Z xs vs) {i : Nat} {v : Value} (hv : vs[i]? = some v) : ∃ x, xs[i]? = some x ∧ VR Z x v := by
  induction xs generalizing vs i with
  | nil => cases h; cases hv
  | cons y xs ih =>
    cases h with
    | cons a r =>
      cases i with
      | zero => cases hv; exact ⟨_, rfl, a⟩
      | succ i => exact ih r hv
theorem VRs.take {xs : List PV} {vs : List Value} (h : VRs Z xs vs) (i : Nat) : VRs Z (xs.take i) (vs.take i) := by
  induction xs generalizing vs i with
  | nil => cases h; simpa using VRs.nil
  | cons y xs ih =>
    cases h with
    | cons a r =>
      cases i with
      | zero => exact .nil
      | succ i => exact .cons a (ih r i)
theorem VRs.drop {xs : List PV} {vs : List Value} (h : VRs Z xs vs) (i : Nat) : VRs Z (xs.drop i) (vs.drop i) := by
  induction xs generalizing vs i with
  | nil => cases h; simpa using VRs.nil
  | cons y xs ih =>
    cases h with
    | cons a r =>
      cases i with
      | zero => exact .cons a r
      | succ i => exact ih r i
end
set_option genSizeOf false in
set_option genInjectivity false in
/-- a list that is kept by its address: may it be changed, and its items -/
structure LO where
  mu : Bool
  xs : List PV
abbrev LH := Addr → Option LO
abbrev Loc := String → Option PV
noncomputable def LH.set (H : LH) (a : Addr) (l : LO) : LH := fun b => if b = a then some l else H b
noncomputable def LH.ro (H : LH) : LH := fun b => (H b).map fun l => ⟨false, l.xs⟩
noncomputable def Loc.set (l : Loc) (x : String) (v : PV) : Loc := fun y => if y = x then some v else l y
set_option genSizeOf false in
set_option genInjectivity false in
structure St where
  loc : Loc
  H : LH
set_option genSizeOf false in
set_option genInjectivity false in
/-- a name of a frame's holds v -/
inductive Holds1 (Z : Zm) (env : Env) (m : Str → Option Value) (h : Heap) (x : String) (p : PV) : Prop
  | loc (v : Value) : env.kindOf (Str.ofString x) = some .local → m (Str.ofString x) = some v → VR Z p v → Holds1 Z env m h x p
  | cell (c : Addr) (v : Value) : (env.kindOf (Str.ofString x) = some .cell ∨ env.kindOf (Str.ofString x) = some .free) → env.cells.lookup (Str.ofString x) = some c → h.IsCell c (some v) → VR Z p v → Holds1 Z env m h x p
set_option genSizeOf false in
set_option genInjectivity false in
/-- the heap bears the plain state -/
structure Sat (h₀ : Heap) (Z : Zm) (env : Env) (loc : Loc) (H : LH) (h : Heap) : Prop where
  base : ∀ a o, h₀.get? a = some o → Z a = some o
  frz : ∀ a o, Z a = some o → h.get? a = some o
  nsZ : Z env.locals = Option.none
  cellZ : ∀ n c, (n, c) ∈ env.cells → Z c = Option.none ∧ (∃ w, h.IsCell c w)
  cellN : (env.cells.map (·.2)).Nodup
  kind : env.scope.kind = .function
  ns : ∃ m, h.Ns env.locals m ∧ ∀ x p, loc x = some p → Holds1 Z env m h x p
  obj : ∀ a l, H a = some l → Z a = Option.none ∧ ∃ vs n, h.get? a = some { cls := .type "list", data := .seq vs.toArray n } ∧ VRs Z l.xs vs
/-- new ones are fresh -/
noncomputable def Fresh (s : Shared) (Z Z' : Zm) : Prop := Zle Z Z' ∧ ∀ a, Z a = Option.none → Z' a ≠ Option.none → s.heap.get? a = Option.none
noncomputable def FreshH (s : Shared) (H H' : LH) : Prop := (∀ a l, H a = some l → H' a = some l) ∧ ∀ a, H a = Option.none → H' a ≠ Option.none → s.heap.get? a = Option.none
end Mine
end
section
namespace Mine
noncomputable def Zm.set (Z : Zm) (a : Addr) (o : Obj) : Zm := fun b => if b = a then some o else Z b
theorem Zm.set_self (Z : Zm) (a : Addr) (o : Obj) : Z.set a o a = some o := by simp [Zm.set]
theorem Zm.le_set {Z : Zm} {a : Addr} (o : Obj) (h : Z a = none) : Zle Z (Z.set a o) := fun b o' e => by
  unfold Zm.set
  by_cases hb : b = a
  · subst hb; rw [h] at e; cases e
  · rw [if_neg hb]; exact e
theorem LH.set_self (H : LH) (a : Addr) (l : LO) : H.set a l a = some l := by simp [LH.set]
theorem LH.set_ne (H : LH) {a b : Addr} (l : LO) (h : b ≠ a) : H.set a l b = H b := by simp [LH.set, h]
theorem Loc.set_self (l : Loc) (x : String) (v : PV) : l.set x v x = some v := by simp [Loc.set]
theorem Loc.set_ne (l : Loc) {x y : String} (v : PV) (h : y ≠ x) : l.set x v y = l y := by simp [Loc.set, h]
noncomputable def Kp (s s' : Shared) : Prop := ∃ h' tk, s' = { s with heap := h', toks := tk } ∧ ∀ b o, s.heap.get? b = some o → h'.get? b = some o
theorem Kp.refl (s : Shared) : Kp s s := ⟨s.heap, s.toks, rfl, fun _ _ e => e⟩
theorem Kp.toks (s : Shared) (tk : Nat) : Kp s { s with toks := tk } := ⟨s.heap, tk, rfl, fun _ _ e => e⟩
theorem Kp.trans {s₁ s₂ s₃ : Shared} (a : Kp s₁ s₂) (b : Kp s₂ s₃) : Kp s₁ s₃ := by
  obtain ⟨h, t, rfl, k⟩ := a
  obtain ⟨h', t', rfl, k'⟩ := b
  exact ⟨h', t', rfl, fun b o e => k' b o (k b o e)⟩
theorem Kp.get {s s' : Shared} (a : Kp s s') {b : Addr} {o : Obj} (e : s.heap.get? b = some o) : s'.heap.get? b = some o := by
  obtain ⟨h, t, rfl, k⟩ := a; exact k b o e
theorem Kp.none {s s' : Shared} (a : Kp s s') {b : Addr} (e : s'.heap.get? b = Option.none) : s.heap.get? b = Option.none := by
  cases q : s.heap.get? b with
  | none => rfl
  | some o => rw [a.get q] at e; cases e
theorem Fresh.refl (s : Shared) (Z : Zm) : Fresh s Z Z := ⟨Zle.refl Z, fun _ h k => absurd h k⟩
theorem FreshH.refl (s : Shared) (H : LH) : FreshH s H H := ⟨fun _ _ e => e, fun _ h k => absurd h k⟩
theorem Fresh.trans {s s₁ : Shared} {Z Z₁ Z₂ : Zm} (a : Fresh s Z Z₁) (b : Fresh s₁ Z₁ Z₂) (k : Kp s s₁) : Fresh s Z Z₂ :=
  ⟨a.1.trans b.1, fun x h h' => by
    cases q : Z₁ x with
    | none => exact k.none (b.2 x q h')
    | some o => exact a.2 x h (by rw [q]; exact Option.some_ne_none o)⟩
theorem FreshH.trans {s s₁ : Shared} {H H₁ H₂ : LH} (a : FreshH s H H₁) (b : FreshH s₁ H₁ H₂) (k : Kp s s₁) : FreshH s H H₂ :=
  ⟨fun x l e => b.1 x l (a.1 x l e), fun x h h' => by
    cases q : H₁ x with
    | none => exact k.none (b.2 x q h')
    | some o => exact a.2 x h (by rw [q]; exact Option.some_ne_none o)⟩
section
variable {h₀ : Heap} {Z Z' : Zm} {env : Env} {loc : Loc} {H H' : LH} {h h' : Heap}
theorem Holds1.keeps {m : Str → Option Value} {x : String} {p : PV} (a : Holds1 Z env m h x p) (z : Zle Z Z') (k : ∀ b o, h.get? b = some o → h'.get? b = some o) : Holds1 Z' env m h' x p := by
  cases a with
  | loc v a b c => exact .loc v a b (c.mono z)
  | cell c v a b d e => exact .cell c v a b (d.keeps k) (e.mono z)
/-- a heap that keeps all -/
theorem Sat.keeps (S : Sat h₀ Z env loc H h) (k : ∀ b o, h.get? b = some o → h'.get? b = some o) : Sat h₀ Z env loc H h' where
  base := S.base
  frz := fun a o e => k a o (S.frz a o e)
  nsZ := S.nsZ
  cellZ := fun n c hm => ⟨(S.cellZ n c hm).1, let ⟨w, x⟩ := (S.cellZ n c hm).2; ⟨w, x.keeps k⟩⟩
  cellN := S.cellN
  kind := S.kind
  ns := let ⟨m, a, b⟩ := S.ns; ⟨m, a.at' fun o e => k _ o e, fun x p e => (b x p e).keeps (Zle.refl Z) k⟩
  obj := fun a l e => let ⟨z, vs, n, q, r⟩ := S.obj a l e; ⟨z, vs, n, k _ _ q, r⟩
/-- a frozen one more -/
theorem Sat.freeze (S : Sat h₀ Z env loc H h) (z : Zle Z Z') (hz : ∀ a o, Z' a = some o → h.get? a = some o) (hL : Z' env.locals = none) (hc : ∀ n c, (n, c) ∈ env.cells → Z' c = none) (hH : ∀ a l, H a = some l → Z' a = none) : Sat h₀ Z' env loc H h where
  base := fun a o e => z a o (S.base a o e)
  frz := hz
  nsZ := hL
  cellZ := fun n c hm => ⟨hc n c hm, (S.cellZ n c hm).2⟩
  cellN := S.cellN
  kind := S.kind
  ns := let ⟨m, a, b⟩ := S.ns; ⟨m, a, fun x p e => (b x p e).keeps z fun _ _ e => e⟩
  obj := fun a l e => let ⟨_, vs, n, q, r⟩ := S.obj a l e; ⟨hH a l e, vs, n, q, r.mono z⟩
theorem Sat.nsAt (S : Sat h₀ Z env loc H h) : ∃ o, h.get? env.locals = some o := let ⟨_, a, _⟩ := S.ns; let ⟨o, _, _, e, _⟩ := a; ⟨o, e⟩
theorem Sat.freeze1 {a : Addr} {o : Obj} (S : Sat h₀ Z env loc H h) (hk : ∀ b o, h.get? b = some o → h'.get? b = some o) (ha : h.get? a = none) (ho : h'.get? a = some o) : Sat h₀ (Z.set a o) env loc H h' := by
  have hZ : Z a = none := by
    cases q : Z a with
    | none => rfl
    | some o => have := S.frz a o q; rw [ha] at this; cases this
  have ne : ∀ b o', h.get? b = some o' → b ≠ a := fun b o' e q => by rw [q, ha] at e; cases e
  refine (S.keeps hk).freeze (Zm.le_set o hZ) ?_ ?_ ?_ ?_
  · intro b o' e
    unfold Zm.set at e
    by_cases hb : b = a
    · rw [if_pos hb] at e; cases e; rw [hb]; exact ho
    · rw [if_neg hb] at e; exact hk _ _ (S.frz _ _ e)
  · obtain ⟨oL, e⟩ := S.nsAt
    unfold Zm.set; rw [if_neg (ne _ _ e)]; exact S.nsZ
  · intro n c hm
    obtain ⟨z, w, oc, e, _⟩ := S.cellZ n c hm
    unfold Zm.set; rw [if_neg (ne _ _ e)]; exact z
  · intro b l hb
    obtain ⟨z, vs, n, e, _⟩ := S.obj b l hb
    unfold Zm.set; rw [if_neg (ne _ _ e)]; exact z
theorem Sat.newList {a : Addr} {vs : List Value} {n : Nat} {l : LO} (S : Sat h₀ Z env loc H h) (hk : ∀ b o, h.get? b = some o → h'.get? b = some o) (ha : h.get? a = none) (ho : h'.get? a = some { cls := .type "list", data := .seq vs.toArray n }) (hv : VRs Z l.xs vs) : Sat h₀ Z env loc (H.set a l) h' where
  base := S.base
  frz := fun a o e => hk a o (S.frz a o e)
  nsZ := S.nsZ
  cellZ := (S.keeps hk).cellZ
  cellN := S.cellN
  kind := S.kind
  ns := (S.keeps hk).ns
  obj := fun b l' e => by
    by_cases hb : b = a
    · subst hb
      rw [LH.set_self] at e; cases e
      refine ⟨?_, vs, n, ho, hv⟩
      cases q : Z b with
      | none => rfl
      | some o => have := S.frz b o q; rw [ha] at this; cases this
    · rw [LH.set_ne _ _ hb] at e
      exact (S.keeps hk).obj b l' e
end
/-- what a pure expression leaves -/
structure Ke (h₀ : Heap) (env : Env) (loc : Loc) (Z : Zm) (H : LH) (s : Shared) (Z' : Zm) (H' : LH) (s' : Shared) : Prop where
  sat : Sat h₀ Z' env loc H' s'.heap
  kp : Kp s s'
  fz : Fresh s Z Z'
  fh : FreshH s H H'
section
variable {h₀ : Heap} {env : Env} {loc : Loc} {Z Z' Z₁ Z₂ : Zm} {H H' H₁ H₂ : LH} {s s' s₁ s₂ : Shared}
theorem Ke.refl (S : Sat h₀ Z env loc H s.heap) : Ke h₀ env loc Z H s Z H s := ⟨S, Kp.refl s, Fresh.refl s Z, FreshH.refl s H⟩
theorem Ke.toks (S : Sat h₀ Z env loc H s.heap) (tk : Nat) : Ke h₀ env loc Z H s Z H { s with toks := tk } := ⟨S, Kp.toks s tk, Fresh.refl s Z, FreshH.refl s H⟩
theorem Ke.keep (S : Sat h₀ Z env loc H s.heap) (k : Kp s s') : Ke h₀ env loc Z H s Z H s' := ⟨S.keeps fun _ _ e => k.get e, k, Fresh.refl s Z, FreshH.refl s H⟩
theorem Ke.trans (a : Ke h₀ env loc Z H s Z₁ H₁ s₁) (b : Ke h₀ env loc Z₁ H₁ s₁ Z₂ H₂ s₂) : Ke h₀ env loc Z H s Z₂ H₂ s₂ := ⟨b.sat, a.kp.trans b.kp, a.fz.trans b.fz a.kp, a.fh.trans b.fh a.kp⟩
theorem Ke.frozen {a : Addr} {o : Obj} (S : Sat h₀ Z env loc H s.heap) (k : Kp s s') (ha : s.heap.get? a = none) (ho : s'.heap.get? a = some o) : Ke h₀ env loc Z H s (Z.set a o) H s' := by
  have hZ : Z a = none := by
    cases q : Z a with
    | none => rfl
    | some o => have := S.frz a o q; rw [ha] at this; cases this
  refine ⟨S.freeze1 (fun _ _ e => k.get e) ha ho, k, ⟨Zm.le_set o hZ, fun b h h' => ?_⟩, FreshH.refl s H⟩
  by_cases hb : b = a
  · rw [hb]; exact ha
  · unfold Zm.set at h'; rw [if_neg hb] at h'; exact absurd h h'
theorem Ke.newList {a : Addr} {vs : List Value} {n : Nat} {l : LO} (S : Sat h₀ Z env loc H s.heap) (k : Kp s s') (ha : s.heap.get? a = none) (ho : s'.heap.get? a = some { cls := .type "list", data := .seq vs.toArray n }) (hv : VRs Z l.xs vs) :
    Ke h₀ env loc Z H s Z (H.set a l) s' ∧ H a = none := by
  have hH : H a = none := by
    cases q : H a with
    | none => rfl
    | some o => obtain ⟨_, _, _, e, _⟩ := S.obj a o q; rw [ha] at e; cases e
  refine ⟨⟨S.newList (fun _ _ e => k.get e) ha ho hv, k, Fresh.refl s Z, ?_, fun b h h' => ?_⟩, hH⟩
  · intro b l' e
    by_cases hb : b = a
    · subst hb; rw [hH] at e; cases e
    · rw [LH.set_ne _ _ hb]; exact e
  · by_cases hb : b = a
    · rw [hb]; exact ha
    · rw [LH.set_ne _ _ hb] at h'; exact absurd h h'
end
theorem get_size (h : Heap) : h.get? h.objs.size = none := by
  cases q : h.get? h.objs.size with
  | none => rfl
  | some o => exact absurd (Heap.lt_size q) (Nat.lt_irrefl _)
theorem Kp.push (s : Shared) (o : Obj) : Kp s { s with heap := s.heap.push o } := ⟨_, s.toks, rfl, fun _ _ e => Heap.get?_push_of_some _ e⟩
/-- room for n calls within each other -/
structure Rm (n : Nat) (A : Around) : Prop where
  hd : A.handled = none
  dp : A.depth + n < recursionLimit
  un : A.units + 80 + 8 * n < cLine
theorem Rm.le {n k : Nat} {A : Around} (r : Rm n A) (h : k ≤ n) : Rm k A := ⟨r.hd, by have := r.dp; (first | lia | omega), by have := r.un; (first | lia | omega)⟩
theorem Rm.deeper {n : Nat} {A : Around} (r : Rm (n + 1) A) (env : Env) : Rm n (A.deeper env) := ⟨r.hd, by have := r.dp; show A.depth + 1 + n < _; (first | lia | omega), by have := r.un; show A.units + 3 + 80 + 8 * n < _; (first | lia | omega)⟩
abbrev ET := St → (PV → LH → Prop) → Prop
abbrev BT := St → (Bool → LH → Prop) → Prop
section
variable (h₀ : Heap) (prog : Program) (w : World)
/-- the expression, as a transformer of plain states -/
noncomputable def EvOk (n : Nat) (env : Env) (e : Expr) (F : ET) : Prop :=
  ∀ (A : Around) (Z : Zm) (loc : Loc) (H : LH) (s : Shared) (Q : PV → LH → Prop) (Q' : Value → Shared → Prop) (E : Value → Shared → Prop),
    Rm n A → Sat h₀ Z env loc H s.heap → F ⟨loc, H⟩ Q →
    (∀ v p Z' H' s', Ke h₀ env loc Z H s Z' H' s' → VR Z' p v → Q p H' → Q' v s') → wpAny (model prog w) A (eval e env) Q' E s
/-- a test -/
noncomputable def BtOk (n : Nat) (env : Env) (e : Expr) (F : BT) : Prop :=
  ∀ (A : Around) (Z : Zm) (loc : Loc) (H : LH) (s : Shared) (Q : Bool → LH → Prop) (Q' : Bool → Shared → Prop) (E : Value → Shared → Prop),
    Rm n A → Sat h₀ Z env loc H s.heap → F ⟨loc, H⟩ Q →
    (∀ b Z' H' s', Ke h₀ env loc Z H s Z' H' s' → Q b H' → Q' b s') → wpAny (model prog w) A (isTrue e env (eval e env)) Q' E s
/-- an operation on values -/
noncomputable def OpOk (n : Nat) (env : Env) (loc : Loc) (Z : Zm) (H : LH) (s : Shared) (t : Sem Value) (W : (PV → LH → Prop) → Prop) : Prop :=
  ∀ (A : Around) (Q : PV → LH → Prop) (Q' : Value → Shared → Prop) (E : Value → Shared → Prop), Rm n A → W Q →
    (∀ v p Z' H' s', Ke h₀ env loc Z H s Z' H' s' → VR Z' p v → Q p H' → Q' v s') → wpAny (model prog w) A t Q' E s
end
end Mine
end
section
namespace Mine
noncomputable def getW (o : Option PV) (k : PV → Prop) : Prop := ∃ v, o = some v ∧ k v
theorem getW_some (v : PV) (k : PV → Prop) : getW (some v) k = k v := by simp [getW]
section
variable {h₀ : Heap} {prog : Program} {w : World} {n : Nat} {env : Env}
theorem ev_int (i : Int) (k : Nat) (pos : Pos) : EvOk h₀ prog w n env (.Constant (.int i) k pos) (fun σ Q => Q (.int i) σ.H) :=
  fun _ _ _ _ _ _ _ _ _ S f q => wpAny_Constant_int (q _ _ _ _ _ (Ke.toks S _) (.int _ _) f)
theorem ev_str (x : Str) (k : Nat) (pos : Pos) : EvOk h₀ prog w n env (.Constant (.str x) k pos) (fun σ Q => Q (.str x) σ.H) :=
  fun _ _ _ _ _ _ _ _ _ S f q => wpAny_Constant_str (q _ _ _ _ _ (Ke.toks S _) (.str _ _) f)
theorem ev_none (k : Nat) (pos : Pos) : EvOk h₀ prog w n env (.Constant .none k pos) (fun σ Q => Q .none σ.H) :=
  fun _ _ _ _ _ _ _ _ _ S f q => wpAny_Constant_none (q _ _ _ _ _ (Ke.refl S) .none f)
theorem ev_bool (b : Bool) (k : Nat) (pos : Pos) : EvOk h₀ prog w n env (.Constant (.bool b) k pos) (fun σ Q => Q (.bool b) σ.H) :=
  fun _ _ _ _ _ _ _ _ _ S f q => wpAny_Constant_bool (q _ _ _ _ _ (Ke.refl S) (.bool _) f)
theorem load_ok {A : Around} {Z : Zm} {loc : Loc} {H : LH} {s : Shared} {x : String} {p : PV} {Q' : Value → Shared → Prop} {E : Value → Shared → Prop} (S : Sat h₀ Z env loc H s.heap) (e : loc x = some p)
    (q : ∀ v, VR Z p v → Q' v s) (hn : (Str.ofString x == ("__classdict__" : Str)) = false) : wpAny (model prog w) A (loadName env (Str.ofString x)) Q' E s := by
  obtain ⟨m, hm, hl⟩ := S.ns
  cases hl x p e with
  | loc v a b c => exact wpAny_loadName_local S.kind a hm b (q v c)
  | cell c v a b d e =>
    rcases a with a | a
    · exact wpAny_loadName_cell S.kind a b d (q v e)
    · exact wpAny_loadName_free S.kind a b d (q v e) hn
theorem ev_name (x : String) (pos : Pos) (hd : (Str.ofString x == ("__debug__" : Str)) = false) (hn : (Str.ofString x == ("__classdict__" : Str)) = false) :
    EvOk h₀ prog w n env (.Name (Str.ofString x) pos) (fun σ Q => getW (σ.loc x) fun v => Q v σ.H) := by
  intro A Z loc H s Q Q' E r S f q
  obtain ⟨p, e, f⟩ := f
  exact wpAny_Name (load_ok S e (fun v hv => q _ _ _ _ _ (Ke.refl S) hv f) hn) hd
theorem ev_bin {l r : Expr} {op : Operator} {pos : Pos} {fl fr : ET} {W : PV → PV → LH → (PV → LH → Prop) → Prop} (hl : EvOk h₀ prog w n env l fl) (hr : EvOk h₀ prog w n env r fr)
    (hop : ∀ loc Z H s a b x y, Sat h₀ Z env loc H s.heap → VR Z a x → VR Z b y → OpOk h₀ prog w n env loc Z H s (binaryOp op x y) (W a b H)) :
    EvOk h₀ prog w n env (.BinOp l op r pos) (fun σ Q => fl σ fun a H₁ => fr ⟨σ.loc, H₁⟩ fun b H₂ => W a b H₂ Q) := by
  intro A Z loc H s Q Q' E rm S f q
  refine wpAny_BinOp (hl A Z loc H s _ _ _ rm S f fun x a Z₁ H₁ s₁ k₁ va f₁ => ?_)
  refine hr A Z₁ loc H₁ s₁ _ _ _ rm k₁.sat f₁ fun y b Z₂ H₂ s₂ k₂ vb f₂ => ?_
  exact hop loc Z₂ H₂ s₂ a b x y k₂.sat (va.mono k₂.fz.1) vb A Q _ _ rm f₂ fun v p Z₃ H₃ s₃ k₃ vv f₃ => q _ _ _ _ _ (k₁.trans (k₂.trans k₃)) vv f₃
/-- a value that is made without touching the heap -/
theorem op_val {A : Around} {loc : Loc} {Z : Zm} {H : LH} {s : Shared} {t : Sem Value} {p : PV} {Q : PV → LH → Prop} {Q' : Value → Shared → Prop} {E : Value → Shared → Prop} (S : Sat h₀ Z env loc H s.heap) (f : Q p H)
    (q : ∀ v p Z' H' s', Ke h₀ env loc Z H s Z' H' s' → VR Z' p v → Q p H' → Q' v s')
    (h : (∀ v tk, VR Z p v → Q' v { s with toks := tk }) → wpAny (model prog w) A t Q' E s) : wpAny (model prog w) A t Q' E s :=
  h fun v tk hv => q _ _ _ _ _ (Ke.toks S tk) hv f
end
noncomputable def listW (xs : List PV) (H : LH) (Q : PV → LH → Prop) : Prop := Q (.lst xs) H ∨ ∀ a, H a = none → Q (.ref a) (H.set a ⟨true, xs⟩)
theorem listW_lst {xs : List PV} {H : LH} {Q : PV → LH → Prop} (h : Q (.lst xs) H) : listW xs H Q := .inl h
theorem listW_ref {xs : List PV} {H : LH} {Q : PV → LH → Prop} (h : ∀ a, H a = none → Q (.ref a) (H.set a ⟨true, xs⟩)) : listW xs H Q := .inr h
section
variable {h₀ : Heap} {prog : Program} {w : World} {n : Nat} {env : Env}
/-- a new list, kept by its value or by its address -/
theorem list_new {loc : Loc} {Z : Zm} {H : LH} {s s' : Shared} {a : Addr} {vs : List Value} {k : Nat} {xs : List PV} {Q : PV → LH → Prop} {Q' : Value → Shared → Prop} (S : Sat h₀ Z env loc H s.heap) (f : listW xs H Q)
    (q : ∀ v p Z' H' s', Ke h₀ env loc Z H s Z' H' s' → VR Z' p v → Q p H' → Q' v s') (hk : Kp s s') (ha : s.heap.get? a = none) (ho : s'.heap.get? a = some { cls := .type "list", data := .seq vs.toArray k }) (hv : VRs Z xs vs) : Q' (.ref a) s' := by
  rcases f with f | f
  · have K := Ke.frozen S hk ha ho
    exact q _ _ _ _ _ K (.lst (Zm.set_self _ _ _) (hv.mono K.fz.1)) f
  · obtain ⟨K, hH⟩ := Ke.newList (l := ⟨true, xs⟩) S hk ha ho hv
    exact q _ _ _ _ _ K (.ref a) (f a hH)
theorem tup_new {loc : Loc} {Z : Zm} {H : LH} {s s' : Shared} {a : Addr} {vs : List Value} {k : Nat} {xs : List PV} {Q : PV → LH → Prop} {Q' : Value → Shared → Prop} (S : Sat h₀ Z env loc H s.heap) (f : Q (.tup xs) H)
    (q : ∀ v p Z' H' s', Ke h₀ env loc Z H s Z' H' s' → VR Z' p v → Q p H' → Q' v s') (hk : Kp s s') (ha : s.heap.get? a = none) (ho : s'.heap.get? a = some { cls := .type "tuple", data := .seq vs.toArray k }) (hv : VRs Z xs vs) : Q' (.ref a) s' := by
  have K := Ke.frozen S hk ha ho
  exact q _ _ _ _ _ K (.tup (Zm.set_self _ _ _) (hv.mono K.fz.1)) f
end
abbrev EsT := St → (List PV → LH → Prop) → Prop
noncomputable def EsOk (h₀ : Heap) (prog : Program) (w : World) (n : Nat) (env : Env) (es : List Expr) (F : EsT) : Prop :=
  ∀ (A : Around) (Z : Zm) (loc : Loc) (H : LH) (s : Shared) (pos : Pos) (Q : List PV → LH → Prop) (Q' : List Value → Shared → Prop) (E : Value → Shared → Prop),
    Rm n A → Sat h₀ Z env loc H s.heap → F ⟨loc, H⟩ Q →
    (∀ v p Z' H' s', Ke h₀ env loc Z H s Z' H' s' → VRs Z' p v → Q p H' → Q' v s') → wpAny (model prog w) A (spliced (backTo pos (starEach es env))) Q' E s
section
variable {h₀ : Heap} {prog : Program} {w : World} {n : Nat} {env : Env}
theorem es_nil : EsOk h₀ prog w n env [] (fun σ Q => Q [] σ.H) :=
  fun _ _ _ _ _ _ _ _ _ _ S f q => wpAny_items_nil (q _ _ _ _ _ (Ke.refl S) .nil f)
theorem es_cons {e : Expr} {rest : List Expr} {fe : ET} {fr : EsT} (he : EvOk h₀ prog w n env e fe) (hr : EsOk h₀ prog w n env rest fr) (hs : starEach (e :: rest) env = (false, eval e env) :: starEach rest env := by rfl) :
    EsOk h₀ prog w n env (e :: rest) (fun σ Q => fe σ fun a H₁ => fr ⟨σ.loc, H₁⟩ fun as H₂ => Q (a :: as) H₂) := by
  intro A Z loc H s pos Q Q' E rm S f q
  refine wpAny_items_cons (he A Z loc H s _ _ _ rm S f fun x a Z₁ H₁ s₁ k₁ va f₁ => ?_) hs
  refine hr A Z₁ loc H₁ s₁ pos _ _ _ rm k₁.sat f₁ fun y b Z₂ H₂ s₂ k₂ vb f₂ => ?_
  exact q _ _ _ _ _ (k₁.trans k₂) (.cons (va.mono k₂.fz.1) vb) f₂
theorem ev_list {es : List Expr} {pos : Pos} {F : EsT} (hes : EsOk h₀ prog w n env es F) :
    EvOk h₀ prog w n env (.List es pos) (fun σ Q => F σ fun xs H₁ => xs.length ≤ sizeLine ∧ listW xs H₁ Q) := by
  intro A Z loc H s Q Q' E rm S f q
  refine wpAny_List (hes A Z loc H s pos _ _ _ rm S f fun vs xs Z₁ H₁ s₁ k₁ va f₁ => ⟨by rw [va.length]; exact f₁.1, ?_⟩)
  exact list_new k₁.sat f₁.2 (fun _ _ _ _ _ k v f => q _ _ _ _ _ (k₁.trans k) v f) (Kp.push _ _) (get_size _) (Heap.get?_push_size _ rfl) va
theorem ev_tuple {es : List Expr} {k : Nat} {pos : Pos} {F : EsT} (hes : EsOk h₀ prog w n env es F) :
    EvOk h₀ prog w n env (.Tuple es k pos) (fun σ Q => F σ fun xs H₁ => xs.length ≤ sizeLine ∧ Q (.tup xs) H₁) := by
  intro A Z loc H s Q Q' E rm S f q
  refine wpAny_Tuple (hes A Z loc H s pos _ _ _ rm S f fun vs xs Z₁ H₁ s₁ k₁ va f₁ => ⟨by rw [va.length]; exact f₁.1, ?_⟩)
  exact tup_new k₁.sat f₁.2 (fun _ _ _ _ _ k v f => q _ _ _ _ _ (k₁.trans k) v f) (Kp.push _ _) (get_size _) (Heap.get?_push_size _ rfl) va
theorem ev_ifexp {t b o : Expr} {pos : Pos} {ft : BT} {fb fo : ET} (ht : BtOk h₀ prog w n env t ft) (hb : EvOk h₀ prog w n env b fb) (ho : EvOk h₀ prog w n env o fo) :
    EvOk h₀ prog w n env (.IfExp t b o pos) (fun σ Q => ft σ fun c H₁ => if c then fb ⟨σ.loc, H₁⟩ Q else fo ⟨σ.loc, H₁⟩ Q) := by
  intro A Z loc H s Q Q' E rm S f q
  refine wpAny_IfExp (ht A Z loc H s _ _ _ rm S f fun c Z₁ H₁ s₁ k₁ f₁ => ?_)
  cases c with
  | true => exact hb A Z₁ loc H₁ s₁ Q Q' E rm k₁.sat f₁ fun _ _ _ _ _ k v f => q _ _ _ _ _ (k₁.trans k) v f
  | false => exact ho A Z₁ loc H₁ s₁ Q Q' E rm k₁.sat f₁ fun _ _ _ _ _ k v f => q _ _ _ _ _ (k₁.trans k) v f
end
end Mine
end
section
namespace Mine
/-- the items of a list -/
noncomputable def lstOf (H : LH) : PV → Option (List PV)
  | .lst xs => some xs
  | .ref a => (H a).map (·.xs)
  | _ => none
/-- a list as it stands in the heap -/
theorem lst_at {h₀ : Heap} {Z : Zm} {env : Env} {loc : Loc} {H : LH} {h : Heap} {p : PV} {v : Value} {xs : List PV} (S : Sat h₀ Z env loc H h) (hv : VR Z p v) (e : lstOf H p = some xs) :
    ∃ a vs n, v = .ref a ∧ h.get? a = some { cls := .type "list", data := .seq (List.toArray vs) n } ∧ VRs Z xs vs := by
  cases hv with
  | lst z r => cases e; exact ⟨_, _, _, rfl, S.frz _ _ z, r⟩
  | ref a =>
    change (H a).map (·.xs) = some xs at e
    cases q : H a with
    | none => rw [q] at e; cases e
    | some l =>
      rw [q] at e; cases e
      obtain ⟨_, vs, n, ho, r⟩ := S.obj a l q
      exact ⟨a, vs, n, rfl, ho, r⟩
  | _ => cases e
theorem lst_isList {h₀ : Heap} {Z : Zm} {env : Env} {loc : Loc} {H : LH} {h : Heap} {p : PV} {v : Value} {xs : List PV} (S : Sat h₀ Z env loc H h) (hv : VR Z p v) (e : lstOf H p = some xs) :
    ∃ a vs, v = .ref a ∧ h.IsList a (List.toArray vs) ∧ VRs Z xs vs := by
  obtain ⟨a, vs, n, e1, e2, e5⟩ := lst_at S hv e
  exact ⟨a, vs, e1, ⟨_, e2, rfl, n, rfl⟩, e5⟩
noncomputable def addW (a b : PV) (H : LH) (Q : PV → LH → Prop) : Prop :=
  match a, b with
  | .int i, .int j => Q (.int (i + j)) H
  | .str x, .str y => x.length + y.length ≤ sizeLine ∧ Q (.str (x ++ y)) H
  | a, b => ∃ xs ys, lstOf H a = some xs ∧ lstOf H b = some ys ∧ xs.length + ys.length ≤ sizeLine ∧ listW (xs ++ ys) H Q
noncomputable def mulW (a b : PV) (H : LH) (Q : PV → LH → Prop) : Prop :=
  match a, b with
  | .int i, .int j => IntMulOk i j ∧ Q (.int (i * j)) H
  | .str x, .int j => MulOk x j ∧ Q (.str (Txt.mul x j)) H
  | _, _ => False
noncomputable def intW (P : Int → Int → Prop) (f : Int → Int → Int) (a b : PV) (H : LH) (Q : PV → LH → Prop) : Prop :=
  match a, b with
  | .int i, .int j => P i j ∧ Q (.int (f i j)) H
  | _, _ => False
noncomputable def subW (a b : PV) (H : LH) (Q : PV → LH → Prop) : Prop :=
  match a, b with
  | .int i, .int j => Q (.int (i - j)) H
  | _, _ => False
noncomputable def binW (op : Operator) (a b : PV) (H : LH) (Q : PV → LH → Prop) : Prop :=
  match op with
  | .Add => addW a b H Q
  | .Sub => subW a b H Q
  | .Mult => mulW a b H Q
  | .FloorDiv => intW (fun _ j => j ≠ 0 ∧ j.natAbs < 1073741824) Int.fdiv a b H Q
  | .Mod => intW (fun _ j => j ≠ 0) Int.fmod a b H Q
  | _ => False
section
variable {h₀ : Heap} {prog : Program} {w : World} {n : Nat} {env : Env}
theorem add_lists_ok {loc : Loc} {Z : Zm} {H : LH} {s : Shared} {a b : PV} {x y : Value} {xs ys : List PV} {A : Around} {Q : PV → LH → Prop} {Q' : Value → Shared → Prop} {E : Value → Shared → Prop}
    (S : Sat h₀ Z env loc H s.heap) (va : VR Z a x) (vb : VR Z b y) (ha : lstOf H a = some xs) (hb : lstOf H b = some ys) (hsz : xs.length + ys.length ≤ sizeLine) (f : listW (xs ++ ys) H Q)
    (q : ∀ v p Z' H' s', Ke h₀ env loc Z H s Z' H' s' → VR Z' p v → Q p H' → Q' v s') : wpAny (model prog w) A (binaryOp .Add x y) Q' E s := by
  obtain ⟨l, vs, k, rfl, ho, r1⟩ := lst_at S va ha
  obtain ⟨l2, ws, k2, rfl, ho2, r2⟩ := lst_at S vb hb
  have e : vs.toArray ++ ws.toArray = (vs ++ ws).toArray := by simp
  refine concat_meets ⟨_, ho, rfl⟩ ⟨_, ho2, rfl⟩ noFill_list_add seq_list_add PySem.F.slot_list_add PySem.F.entry_list_add (PySem.F.args_list_add_2 _ _)
    (list_addW l l2 vs.toArray ws.toArray k k2 none none #[] #[] (by simpa [r1.length, r2.length] using hsz)) ⟨ho, ho2, ?_⟩
  rw [e]
  exact list_new S f q (Kp.push _ _) (get_size _) (Heap.get?_push_size _ rfl) (r1.append r2)
theorem bin_ok (op : Operator) (loc : Loc) (Z : Zm) (H : LH) (s : Shared) (a b : PV) (x y : Value) (S : Sat h₀ Z env loc H s.heap) (va : VR Z a x) (vb : VR Z b y) : OpOk h₀ prog w n env loc Z H s (binaryOp op x y) (binW op a b H) := by
  intro A Q Q' E rm f q
  have hInts : ∀ {P f}, intW P f a b H Q → ∃ i j t u, a = .int i ∧ b = .int j ∧ x = .int i t ∧ y = .int j u ∧ P i j ∧ Q (.int (f i j)) H := fun {P f} h => by
    unfold intW at h
    split at h
    · cases va with | int _ t => cases vb with | int _ u => exact ⟨_, _, t, u, rfl, rfl, rfl, rfl, h⟩
    · exact h.elim
  cases op with
  | Add =>
    change addW a b H Q at f
    unfold addW at f
    split at f
    · cases va with | int i t => cases vb with | int j u => exact op_val S f q fun h => P.add_int (h _ _ (.int _ _))
    · cases va with | str i t => cases vb with | str j u => exact op_val S f.2 q fun h => PyProof.Rows.add_str (fun t' tk => h _ tk (.str _ t')) f.1
    · obtain ⟨xs, ys, ha, hb, hsz, f⟩ := f
      exact add_lists_ok S va vb ha hb hsz f q
  | Sub =>
    change subW a b H Q at f
    unfold subW at f
    split at f
    · cases va with | int i t => cases vb with | int j u => exact op_val S f q fun h => P.sub_int (h _ _ (.int _ _))
    · exact f.elim
  | Mult =>
    change mulW a b H Q at f
    unfold mulW at f
    split at f
    · cases va with | int i t => cases vb with | int j u => exact op_val S f.2 q fun h => P.mul_int (h _ _ (.int _ _)) f.1
    · cases va with | str i t => cases vb with | int j u => exact op_val S f.2 q fun h => SB.mul f.1 (fun t' tk => h _ tk (.str _ t'))
    · exact f.elim
  | FloorDiv => obtain ⟨i, j, t, u, rfl, rfl, rfl, rfl, hp, f⟩ := hInts f; exact op_val S f q fun h => PyProof.Rows.floordiv_int hp.1 (h _ _ (.int _ _)) (.inl (PyProof.noPylong_small hp.2))
  | Mod => obtain ⟨i, j, t, u, rfl, rfl, rfl, rfl, hp, f⟩ := hInts f; exact op_val S f q fun h => PyProof.Rows.mod_int' hp (h _ _ (.int _ _))
  | _ => exact f.elim
/-- += and its kin, on values -/
noncomputable def inAddW (a b : PV) (H : LH) (Q : PV → LH → Prop) : Prop :=
  match a, b with
  | .int i, .int j => Q (.int (i + j)) H
  | .str x, .str y => x.length + y.length ≤ sizeLine ∧ Q (.str (x ++ y)) H
  | _, _ => False
noncomputable def inW (op : Operator) (a b : PV) (H : LH) (Q : PV → LH → Prop) : Prop :=
  match op with
  | .Add => inAddW a b H Q
  | .Sub => subW a b H Q
  | _ => False
theorem in_ok (op : Operator) (loc : Loc) (Z : Zm) (H : LH) (s : Shared) (a b : PV) (x y : Value) (S : Sat h₀ Z env loc H s.heap) (va : VR Z a x) (vb : VR Z b y) : OpOk h₀ prog w n env loc Z H s (inplaceOp op x y) (inW op a b H) := by
  intro A Q Q' E rm f q
  cases op with
  | Add =>
    change inAddW a b H Q at f
    unfold inAddW at f
    split at f
    · cases va with | int i t => cases vb with | int j u => exact op_val S f q fun h => P.iadd_int (h _ _ (.int _ _))
    · cases va with | str i t => cases vb with | str j u => exact op_val S f.2 q fun h => PyProof.Rows.iadd_str (fun t' tk => h _ tk (.str _ t')) f.1
    · exact f.elim
  | Sub =>
    change subW a b H Q at f
    unfold subW at f
    split at f
    · cases va with | int i t => cases vb with | int j u => exact op_val S f q fun h => P.isub_int (h _ _ (.int _ _))
    · exact f.elim
  | _ => exact f.elim
theorem ev_binop {l r : Expr} {op : Operator} {pos : Pos} {fl fr : ET} (hl : EvOk h₀ prog w n env l fl) (hr : EvOk h₀ prog w n env r fr) :
    EvOk h₀ prog w n env (.BinOp l op r pos) (fun σ Q => fl σ fun a H₁ => fr ⟨σ.loc, H₁⟩ fun b H₂ => binW op a b H₂ Q) := ev_bin hl hr (bin_ok op)
/-- -x -/
theorem ev_neg {e : Expr} {pos : Pos} {fe : ET} (he : EvOk h₀ prog w n env e fe) :
    EvOk h₀ prog w n env (.UnaryOp .USub e pos) (fun σ Q => fe σ fun a H₁ => ∃ i, a = .int i ∧ Q (.int (-i)) H₁) := by
  intro A Z loc H s Q Q' E rm S f q
  refine wpAny_UnaryOp (he A Z loc H s _ _ _ rm S f fun x a Z₁ H₁ s₁ k₁ va f₁ => ?_)
  obtain ⟨i, rfl, f₁⟩ := f₁
  cases va with
  | int i t => exact P.neg_int (q _ _ _ _ _ (k₁.trans (Ke.toks k₁.sat _)) (.int _ _) f₁)
end
end Mine
end
section
namespace Mine
mutual
/-- the datum that a value is -/
inductive Dt (H : LH) : PV → PyData → Prop
  | none : Dt H .none .none
  | bool (b : Bool) : Dt H (.bool b) (.bool b)
  | int (i : Int) : Dt H (.int i) (.int i)
  | str (x : Str) : Dt H (.str x) (.str x)
  | tup {xs : List PV} {ds : List PyData} : Dts H xs ds → Dt H (.tup xs) (.tuple ds)
  | lst {xs : List PV} {ds : List PyData} : Dts H xs ds → Dt H (.lst xs) (.list ds)
  | ref {a : Addr} {l : LO} {ds : List PyData} : H a = some l → Dts H l.xs ds → Dt H (.ref a) (.list ds)
inductive Dts (H : LH) : List PV → List PyData → Prop
  | nil : Dts H [] []
  | cons {x : PV} {d : PyData} {xs : List PV} {ds : List PyData} : Dt H x d → Dts H xs ds → Dts H (x :: xs) (d :: ds)
end
section
variable {h₀ : Heap} {Z : Zm} {env : Env} {loc : Loc} {H : LH} {h : Heap}
mutual
theorem Dt.reads (S : Sat h₀ Z env loc H h) : ∀ {p : PV} {d : PyData} {v : Value}, Dt H p d → VR Z p v → ∃ as, Reads h v d as
  | _, _, _, .none, hv => by cases hv; exact ⟨_, .none⟩
  | _, _, _, .bool _, hv => by cases hv; exact ⟨_, .bool _⟩
  | _, _, _, .int _, hv => by cases hv; exact ⟨_, .int _ _⟩
  | _, _, _, .str _, hv => by cases hv; exact ⟨_, .str _ _⟩
  | _, _, _, .tup r, hv => by
      cases hv with
      | tup z k => obtain ⟨_, q⟩ := Dts.reads S r k; exact ⟨_, .tuple (S.frz _ _ z) rfl rfl q⟩
  | _, _, _, .lst r, hv => by
      cases hv with
      | lst z k => obtain ⟨_, q⟩ := Dts.reads S r k; exact ⟨_, .list (S.frz _ _ z) rfl rfl q⟩
  | _, _, _, .ref e r, hv => by
      cases hv
      obtain ⟨_, vs, n, ho, k⟩ := S.obj _ _ e
      obtain ⟨_, q⟩ := Dts.reads S r k
      exact ⟨_, .list ho rfl rfl q⟩
theorem Dts.reads (S : Sat h₀ Z env loc H h) : ∀ {p : List PV} {d : List PyData} {v : List Value}, Dts H p d → VRs Z p v → ∃ as, ReadsAll h v d as
  | _, _, _, .nil, hv => by cases hv; exact ⟨_, .nil⟩
  | _, _, _, .cons a r, hv => by
      cases hv with
      | cons b k =>
        obtain ⟨_, x⟩ := Dt.reads S a b
        obtain ⟨_, y⟩ := Dts.reads S r k
        exact ⟨_, .cons x y⟩
end
end
noncomputable def eqW (a b : PV) (H : LH) (Q : Bool → Prop) : Prop :=
  match a, b with
  | .int i, .int j => Q (i == j)
  | .str x, .str y => Q (x == y)
  | a, b => ∃ da db, Dt H a da ∧ Dt H b db ∧ SeqAt.shaped da = true ∧ SeqAt.shaped db = true ∧ Q (PyData.eqv da db)
noncomputable def ordW (f : Int → Int → Bool) (a b : PV) (Q : Bool → Prop) : Prop :=
  match a, b with
  | .int i, .int j => Q (f i j)
  | _, _ => False
noncomputable def memW (a b : PV) (Q : Bool → Prop) : Prop :=
  match a, b with
  | .str y, .str x => Q (!(Builtin.Str.occurrences x y 0 x.length 1).isEmpty)
  | _, _ => False
noncomputable def isW (a b : PV) (Q : Bool → Prop) : Prop :=
  match b with
  | .none => (match a with
    | .none => Q true
    | .bool _ => Q false
    | _ => False)
  | _ => False
noncomputable def cmpW (op : CmpOp) (a b : PV) (H : LH) (Q : Bool → Prop) : Prop :=
  match op with
  | .Eq => eqW a b H Q
  | .NotEq => eqW a b H fun c => Q (!c)
  | .Lt => ordW (fun i j => decide (i < j)) a b Q
  | .LtE => ordW (fun i j => decide (i ≤ j)) a b Q
  | .Gt => ordW (fun i j => decide (i > j)) a b Q
  | .GtE => ordW (fun i j => decide (i ≥ j)) a b Q
  | .In => memW a b Q
  | .Is => isW a b Q
  | _ => False
section
variable {h₀ : Heap} {prog : Program} {w : World} {n : Nat} {env : Env}
theorem cmp_ok {A : Around} {op : CmpOp} {loc : Loc} {Z : Zm} {H : LH} {s : Shared} {a b : PV} {x y : Value} {Q : Bool → Prop} {Q' : Value → Shared → Prop} {E : Value → Shared → Prop} (rm : Rm n A) (S : Sat h₀ Z env loc H s.heap) (va : VR Z a x) (vb : VR Z b y) (f : cmpW op a b H Q)
    (q : ∀ c, Q c → Q' (.bool c) s) : wpAny (model prog w) A (compareOp op x y) Q' E s := by
  have hu : A.units + 64 < cLine := by have := rm.un; (first | lia | omega)
  have ord : ∀ {g : Int → Int → Bool}, ordW g a b Q → ∃ i j t u, a = .int i ∧ b = .int j ∧ x = .int i t ∧ y = .int j u ∧ Q (g i j) := fun {g} h => by
    unfold ordW at h
    split at h
    · cases va with | int _ t => cases vb with | int _ u => exact ⟨_, _, t, u, rfl, rfl, rfl, rfl, h⟩
    · exact h.elim
  cases op with
  | Eq =>
    change eqW a b H Q at f
    unfold eqW at f
    split at f
    · cases va with | int i t => cases vb with | int j u => exact P.eq_int (q _ f)
    · cases va with | str i t => cases vb with | str j u => exact PyProof.Rows.eq_str (q _ f)
    · obtain ⟨da, db, ha, hb, sa, sb, f⟩ := f
      obtain ⟨_, ra⟩ := ha.reads S va
      obtain ⟨_, rb⟩ := hb.reads S vb
      exact SeqAt.compareEq_shaped ra rb sa sb hu (q _ f)
  | NotEq =>
    change eqW a b H (fun c => Q (!c)) at f
    unfold eqW at f
    split at f
    · cases va with | int i t => cases vb with | int j u => exact P.ne_int (q _ f)
    · cases va with | str i t => cases vb with | str j u => exact PyProof.Rows.ne_str (q _ f)
    · obtain ⟨da, db, ha, hb, sa, sb, f⟩ := f
      obtain ⟨_, ra⟩ := ha.reads S va
      obtain ⟨_, rb⟩ := hb.reads S vb
      exact SeqAt.compareNe_shaped ra rb sa sb hu (q _ f)
  | Lt => obtain ⟨i, j, t, u, rfl, rfl, rfl, rfl, f⟩ := ord f; exact P.lt_int (q _ f)
  | LtE => obtain ⟨i, j, t, u, rfl, rfl, rfl, rfl, f⟩ := ord f; exact P.le_int (q _ f)
  | Gt => obtain ⟨i, j, t, u, rfl, rfl, rfl, rfl, f⟩ := ord f; exact P.gt_int (q _ f)
  | GtE => obtain ⟨i, j, t, u, rfl, rfl, rfl, rfl, f⟩ := ord f; exact P.ge_int (q _ f)
  | In =>
    change memW a b Q at f
    unfold memW at f
    split at f
    · cases va with | str i t => cases vb with | str j u => exact PyProof.Rows.in_str (q _ f)
    · exact f.elim
  | Is =>
    cases b with
    | none =>
      cases vb
      cases va with
      | none => exact is_none (q _ f)
      | bool c => exact is_none (q _ f)
      | _ => exact f.elim
    | _ => exact f.elim
  | _ => exact f.elim
theorem ev_cmp {l r : Expr} {op : CmpOp} {pos : Pos} {fl fr : ET} (hl : EvOk h₀ prog w n env l fl) (hr : EvOk h₀ prog w n env r fr) (hm : behindInMarks op r = false := by with_unfolding_all rfl) :
    EvOk h₀ prog w n env (.Compare l [op] [r] pos) (fun σ Q => fl σ fun a H₁ => fr ⟨σ.loc, H₁⟩ fun b H₂ => cmpW op a b H₂ fun c => Q (.bool c) H₂) := by
  intro A Z loc H s Q Q' E rm S f q
  refine wpAny_Compare1 (hl A Z loc H s _ _ _ rm S f fun x a Z₁ H₁ s₁ k₁ va f₁ => ?_) hm
  refine hr A Z₁ loc H₁ s₁ _ _ _ rm k₁.sat f₁ fun y b Z₂ H₂ s₂ k₂ vb f₂ => ?_
  exact cmp_ok rm k₂.sat (va.mono k₂.fz.1) vb f₂ fun c hc => q _ _ _ _ _ (k₁.trans k₂) (.bool c) hc
theorem bt_cmp {l r : Expr} {op : CmpOp} {pos : Pos} {fl fr : ET} (hl : EvOk h₀ prog w n env l fl) (hr : EvOk h₀ prog w n env r fr) (hm : behindInMarks op r = false := by with_unfolding_all rfl) :
    BtOk h₀ prog w n env (.Compare l [op] [r] pos) (fun σ Q => fl σ fun a H₁ => fr ⟨σ.loc, H₁⟩ fun b H₂ => cmpW op a b H₂ fun c => Q c H₂) := by
  intro A Z loc H s Q Q' E rm S f q
  refine wpAny_isTrue_Compare1 (hl A Z loc H s _ _ _ rm S f fun x a Z₁ H₁ s₁ k₁ va f₁ => ?_) hm
  refine hr A Z₁ loc H₁ s₁ _ _ _ rm k₁.sat f₁ fun y b Z₂ H₂ s₂ k₂ vb f₂ => ?_
  exact cmp_ok rm k₂.sat (va.mono k₂.fz.1) vb f₂ fun c hc => wpAny_truthy_bool (q _ _ _ _ (k₁.trans k₂) hc)
noncomputable def truthW (a : PV) (H : LH) (Q : Bool → Prop) : Prop :=
  match a with
  | .bool b => Q b
  | .int i => Q (i != 0)
  | .none => Q false
  | .str x => x.length < 2 ^ 62 ∧ Q (x.length != 0)
  | a => ∃ xs, lstOf H a = some xs ∧ xs.length < 2 ^ 62 ∧ Q (!xs.isEmpty)
theorem truth_ok {A : Around} {loc : Loc} {Z : Zm} {H : LH} {s : Shared} {a : PV} {x : Value} {Q : Bool → Prop} {Q' : Bool → Shared → Prop} {E : Value → Shared → Prop} (S : Sat h₀ Z env loc H s.heap) (va : VR Z a x) (f : truthW a H Q)
    (q : ∀ c tk, Q c → Q' c { s with toks := tk }) : wpAny (model prog w) A (truthy x) Q' E s := by
  unfold truthW at f
  split at f
  · cases va with | bool b => exact wpAny_truthy_bool (q _ s.toks f)
  · cases va with | int i t => exact P.truthy_int (q _ s.toks f)
  · cases va with | none => exact truthy_none (q _ s.toks f)
  · rename_i y
    cases va with
    | str _ t =>
      refine P.truthy_str (by have := f.1; (first | lia | omega)) (q _ _ ?_)
      have e : ((y.length : Int) != 0) = (y.length != 0) := by
        cases h : y.length with
        | zero => rfl
        | succ k => simp; (first | lia | omega)
      rw [e]; exact f.2
  · obtain ⟨xs, hx, hsz, f⟩ := f
    obtain ⟨l, vs, rfl, hl, r⟩ := lst_isList S va hx
    refine wpAny_truthy_list hl (by simp [r.length]; (first | lia | omega)) ?_
    have e : vs.isEmpty = xs.isEmpty := by
      cases r with
      | nil => rfl
      | cons _ _ => rfl
    rw [← e] at f
    simpa using q _ _ f
/-- any expression as a test -/
theorem bt_val {e : Expr} {fe : ET} (he : EvOk h₀ prog w n env e fe) (hv : isTrue e env (eval e env) = (do let v ← eval e env; standAt e.pos; holding [v] (truthy v)) := by rfl) :
    BtOk h₀ prog w n env e (fun σ Q => fe σ fun a H₁ => truthW a H₁ fun c => Q c H₁) := by
  intro A Z loc H s Q Q' E rm S f q
  refine wpAny_isTrue_value (he A Z loc H s _ _ _ rm S f fun x a Z₁ H₁ s₁ k₁ va f₁ => ?_) hv
  exact truth_ok k₁.sat va f₁ fun c tk hc => q _ _ _ _ (k₁.trans (Ke.toks k₁.sat tk)) hc
theorem bt_not {e : Expr} {pos : Pos} {fe : BT} (he : BtOk h₀ prog w n env e fe) : BtOk h₀ prog w n env (.UnaryOp .Not e pos) (fun σ Q => fe σ fun c H₁ => Q (!c) H₁) := by
  intro A Z loc H s Q Q' E rm S f q
  exact wpAny_isTrue_Not (he A Z loc H s _ _ _ rm S f fun c Z₁ H₁ s₁ k₁ f₁ => q _ _ _ _ k₁ f₁)
noncomputable def AtOk (h₀ : Heap) (prog : Program) (w : World) (n : Nat) (env : Env) (op : BoolOp) (es : List Expr) (F : BT) : Prop :=
  ∀ (A : Around) (Z : Zm) (loc : Loc) (H : LH) (s : Shared) (Q : Bool → LH → Prop) (Q' : Bool → Shared → Prop) (E : Value → Shared → Prop),
    Rm n A → Sat h₀ Z env loc H s.heap → F ⟨loc, H⟩ Q →
    (∀ b Z' H' s', Ke h₀ env loc Z H s Z' H' s' → Q b H' → Q' b s') → wpAny (model prog w) A (allTrue op es env) Q' E s
theorem at_and_nil : AtOk h₀ prog w n env .And [] (fun σ Q => Q true σ.H) := fun _ _ _ _ _ _ _ _ _ S f q => wpAny_allTrue_And_nil (q _ _ _ _ (Ke.refl S) f)
theorem at_or_nil : AtOk h₀ prog w n env .Or [] (fun σ Q => Q false σ.H) := fun _ _ _ _ _ _ _ _ _ S f q => wpAny_allTrue_Or_nil (q _ _ _ _ (Ke.refl S) f)
theorem at_and_cons {e : Expr} {r : List Expr} {fe fr : BT} (he : BtOk h₀ prog w n env e fe) (hr : AtOk h₀ prog w n env .And r fr) :
    AtOk h₀ prog w n env .And (e :: r) (fun σ Q => fe σ fun c H₁ => if c then fr ⟨σ.loc, H₁⟩ Q else Q false H₁) := by
  intro A Z loc H s Q Q' E rm S f q
  refine wpAny_allTrue_And_cons (he A Z loc H s _ _ _ rm S f fun c Z₁ H₁ s₁ k₁ f₁ => ?_)
  cases c with
  | true => exact hr A Z₁ loc H₁ s₁ Q Q' E rm k₁.sat f₁ fun _ _ _ _ k f => q _ _ _ _ (k₁.trans k) f
  | false => exact q _ _ _ _ k₁ f₁
theorem at_or_cons {e : Expr} {r : List Expr} {fe fr : BT} (he : BtOk h₀ prog w n env e fe) (hr : AtOk h₀ prog w n env .Or r fr) :
    AtOk h₀ prog w n env .Or (e :: r) (fun σ Q => fe σ fun c H₁ => if c then Q true H₁ else fr ⟨σ.loc, H₁⟩ Q) := by
  intro A Z loc H s Q Q' E rm S f q
  refine wpAny_allTrue_Or_cons (he A Z loc H s _ _ _ rm S f fun c Z₁ H₁ s₁ k₁ f₁ => ?_)
  cases c with
  | true => exact q _ _ _ _ k₁ f₁
  | false => exact hr A Z₁ loc H₁ s₁ Q Q' E rm k₁.sat f₁ fun _ _ _ _ k f => q _ _ _ _ (k₁.trans k) f
theorem bt_bool {op : BoolOp} {es : List Expr} {pos : Pos} {F : BT} (h : AtOk h₀ prog w n env op es F) : BtOk h₀ prog w n env (.BoolOp op es pos) F :=
  fun A Z loc H s Q Q' E rm S f q => wpAny_isTrue_BoolOp (h A Z loc H s Q Q' E rm S f q)
end
end Mine
end
section
namespace Mine
/-- xs[lo:hi] -/
noncomputable def cut {α : Type} (xs : List α) (lo hi : Option Int) : List α := (xs.drop (lo.elim 0 (clipAt xs.length))).take (hi.elim xs.length (clipAt xs.length) - lo.elim 0 (clipAt xs.length))
noncomputable def scut (x : Str) (lo hi : Option Int) : Str := ⟨(cut x.cps.toList lo hi).toArray⟩
theorem clipAt_le (n : Nat) (i : Int) : clipAt n i ≤ n := by
  unfold clipAt
  exact Int.toNat_le.mpr (Int.max_le.mpr ⟨Int.natCast_nonneg n, Int.min_le_right _ _⟩)
theorem strSlice_plain (lo hi : Option Int) (n : Nat) : Builtin.Str.strSliceIndices lo hi 1 n = (List.range (hi.elim n (clipAt n) - lo.elim 0 (clipAt n))).map (lo.elim 0 (clipAt n) + ·) := by
  rw [← sliceRange_one]
  unfold Builtin.Str.strSliceIndices
  cases lo <;> cases hi <;> simp [clipAt_cast]
theorem txt_slice (x : Str) (lo hi : Option Int) : Txt.slice x lo hi = scut x lo hi := by
  unfold Txt.slice scut cut
  have hl : x.length = x.cps.toList.length := by simp [Str.length]
  rw [strSlice_plain, pick_run]
  by_cases h : ((1 : Int) == 1 && ((List.range (hi.elim x.length (clipAt x.length) - lo.elim 0 (clipAt x.length))).map (lo.elim 0 (clipAt x.length) + ·)).length == x.length) = true
  · rw [if_pos h]
    simp only [List.length_map, List.length_range, beq_self_eq_true, Bool.true_and, beq_iff_eq] at h
    have h1 : lo.elim 0 (clipAt x.length) = 0 ∨ x.length = 0 := by
      have : hi.elim x.length (clipAt x.length) ≤ x.length := by cases hi with | none => exact Nat.le_refl _ | some i => exact clipAt_le _ _
      (first | lia | omega)
    rw [hl] at h h1
    rcases h1 with h1 | h1
    · rw [h1] at h ⊢
      rw [List.drop_zero, h, List.take_length]
    · have : x.cps.toList = [] := List.eq_nil_of_length_eq_zero h1
      have hx : x.cps = #[] := by simpa using this
      cases x with
      | mk c => simp only at hx; subst hx; simp
  · rw [if_neg h, ← hl]
noncomputable def idxW (a i : PV) (H : LH) (Q : PV → LH → Prop) : Prop :=
  match a, i with
  | .str x, .int k => (-(2 ^ 63) ≤ k ∧ k < 2 ^ 63) ∧ ∃ c, (seqIndex? k x.length).bind (x.cps[·]?) = some c ∧ Q (.str ⟨#[c]⟩) H
  | .tup xs, .int k => (-(2 ^ 63) ≤ k ∧ k < 2 ^ 63) ∧ ∃ p, (seqIndex? k xs.length).bind (xs[·]?) = some p ∧ Q p H
  | a, .int k => (-(2 ^ 63) ≤ k ∧ k < 2 ^ 63) ∧ ∃ xs p, lstOf H a = some xs ∧ (seqIndex? k xs.length).bind (xs[·]?) = some p ∧ Q p H
  | _, _ => False
section
variable {h₀ : Heap} {prog : Program} {w : World} {n : Nat} {env : Env}
theorem list_get {A : Around} {s : Shared} {l : Addr} {vs : List Value} {k : Int} {t : Tok} {j : Nat} {v : Value} {Q : Value → Shared → Prop} {E : Value → Shared → Prop} (hl : s.heap.IsList l vs.toArray) (hlo : -(2 ^ 63) ≤ k) (hhi : k < 2 ^ 63)
    (hj : seqIndex? k vs.length = some j) (hv : vs[j]? = some v) (h : Q v s) : wpAny (model prog w) A (getItem (.ref l) (.int k t)) Q E s := by
  unfold seqIndex? at hj
  by_cases h0 : k < 0
  · simp only [if_pos h0] at hj
    split at hj
    · rename_i hc
      simp only [Bool.and_eq_true, decide_eq_true_eq] at hc
      cases hj
      refine wpAny_getItem_list_neg hl h0 (by simp only [List.size_toArray]; (first | lia | omega)) hlo (by simpa using hv) h
    · cases hj
  · simp only [if_neg h0] at hj
    split at hj
    · rename_i hc
      simp only [Bool.and_eq_true, decide_eq_true_eq] at hc
      cases hj
      exact wpAny_getItem_list hl (by (first | lia | omega)) hhi (by simpa using hv) h
    · cases hj
theorem getItem_ok {A : Around} {loc : Loc} {Z : Zm} {H : LH} {s : Shared} {a i : PV} {x y : Value} {Q : PV → LH → Prop} {Q' : Value → Shared → Prop} {E : Value → Shared → Prop} (S : Sat h₀ Z env loc H s.heap) (va : VR Z a x) (vi : VR Z i y) (f : idxW a i H Q)
    (q : ∀ v p tk, VR Z p v → Q p H → Q' v { s with toks := tk }) :
    (∃ T id, s.TypeIs x T ∧ typeLookup (.type T) "__getitem__" = pure (some (.builtin id))) ∧ wpAny (model prog w) A (getItem x y) Q' E s := by
  unfold idxW at f
  split at f
  · cases va with
    | str _ t =>
      cases vi with
      | int _ u =>
        obtain ⟨⟨h1, h2⟩, c, hc, f⟩ := f
        exact ⟨⟨"str", _, typeIs_str s _ t, PySem.F.slot_str_getitem.lookup⟩, P.getItem_str (by simp; (first | lia | omega)) hc (q _ _ _ (.str _ _) f)⟩
  · cases vi with
    | int _ u =>
      obtain ⟨⟨h1, h2⟩, p, hp, f⟩ := f
      cases va with
      | tup z r =>
        obtain ⟨j, hj, hx⟩ := Option.bind_eq_some_iff.mp hp
        obtain ⟨v, hv, vr⟩ := r.get hx
        have ho := S.frz _ _ z
        have hT : IsTup s.heap _ _ := ⟨_, ho, rfl, _, rfl⟩
        exact ⟨⟨"tuple", _, hT.typeIs, PySem.F.slot_tuple_getitem.lookup⟩, PyProof.Rows.getItem_tuple hT h1 h2 (by rw [List.size_toArray, r.length]; exact hj) (by simpa using hv) (q _ _ s.toks vr f)⟩
  · cases vi with
    | int _ u =>
      obtain ⟨⟨h1, h2⟩, xs, p, hl, hp, f⟩ := f
      obtain ⟨l, vs, rfl, hL, r⟩ := lst_isList S va hl
      obtain ⟨j, hj, hx⟩ := Option.bind_eq_some_iff.mp hp
      obtain ⟨v, hv, vr⟩ := r.get hx
      exact ⟨⟨"list", _, hL.typeIs, slot_list_getitem.lookup⟩, list_get hL h1 h2 (by rw [r.length]; exact hj) hv (q _ _ s.toks vr f)⟩
  · exact f.elim
theorem ev_idx {e i : Expr} {pos : Pos} {fe fi : ET} (he : EvOk h₀ prog w n env e fe) (hi : EvOk h₀ prog w n env i fi) (hs : ∀ o v, subscripted i false o v = operate [o, v] (getItem o v) := by intro _ _; rfl) :
    EvOk h₀ prog w n env (.Subscript e i pos) (fun σ Q => fe σ fun a H₁ => fi ⟨σ.loc, H₁⟩ fun b H₂ => idxW a b H₂ Q) := by
  intro A Z loc H s Q Q' E rm S f q
  refine Subscript_ (he A Z loc H s _ _ _ rm S f fun x a Z₁ H₁ s₁ k₁ va f₁ => ?_)
  refine hi A Z₁ loc H₁ s₁ _ _ _ rm k₁.sat f₁ fun y b Z₂ H₂ s₂ k₂ vb f₂ => ?_
  obtain ⟨⟨T, id, hT, hl⟩, hg⟩ := getItem_ok (prog := prog) (w := w) (A := A) (Q' := Q') (E := E) k₂.sat (va.mono k₂.fz.1) vb f₂ fun v p tk hv hq => q _ _ _ _ _ (k₁.trans (k₂.trans (Ke.toks k₂.sat tk))) hv hq
  exact tail_any hT hl hg (hs _ _)
/-- a slice's part -/
inductive Pt (Z : Zm) : Option Int → Value → Prop
  | none : Pt Z Option.none .none
  | int (i : Int) (t : Tok) : Pt Z (some i) (.int i t)
abbrev OT := St → (Option Int → LH → Prop) → Prop
noncomputable def PtOk (h₀ : Heap) (prog : Program) (w : World) (n : Nat) (env : Env) (e : Option Expr) (F : OT) : Prop :=
  ∀ (A : Around) (Z : Zm) (loc : Loc) (H : LH) (s : Shared) (Q : Option Int → LH → Prop) (Q' : Value → Shared → Prop) (E : Value → Shared → Prop),
    Rm n A → Sat h₀ Z env loc H s.heap → F ⟨loc, H⟩ Q →
    (∀ v p Z' H' s', Ke h₀ env loc Z H s Z' H' s' → Pt Z' p v → Q p H' → Q' v s') → wpAny (model prog w) A (evalPart e env) Q' E s
theorem pt_none : PtOk h₀ prog w n env none (fun σ Q => Q none σ.H) := fun _ _ _ _ _ _ _ _ _ S f q => wpAny_evalPart_none (q _ _ _ _ _ (Ke.refl S) .none f)
theorem pt_some {e : Expr} {fe : ET} (he : EvOk h₀ prog w n env e fe) : PtOk h₀ prog w n env (some e) (fun σ Q => fe σ fun a H₁ => ∃ i, a = .int i ∧ Q (some i) H₁) := by
  intro A Z loc H s Q Q' E rm S f q
  refine wpAny_evalPart_some (he A Z loc H s _ _ _ rm S f fun x a Z₁ H₁ s₁ k₁ va f₁ => ?_)
  obtain ⟨i, rfl, f₁⟩ := f₁
  cases va with | int i t => exact q _ _ _ _ _ k₁ (.int i t) f₁
noncomputable def cutW (a : PV) (lo hi : Option Int) (H : LH) (Q : PV → LH → Prop) : Prop :=
  match a with
  | .str x => x.length ≤ sizeLine ∧ Q (.str (scut x lo hi)) H
  | a => ∃ xs, lstOf H a = some xs ∧ xs.length ≤ sizeLine ∧ listW (cut xs lo hi) H Q
theorem VRs.cut {Z : Zm} {xs : List PV} {vs : List Value} (r : VRs Z xs vs) (lo hi : Option Int) : VRs Z (cut xs lo hi) (cut vs lo hi) := by
  unfold Mine.cut
  rw [r.length]
  exact (r.drop _).take _
theorem Pt.part {Z : Zm} {p : Option Int} {v : Value} (h : Pt Z p v) : ∃ q : Option (Int × Tok), v = partValue q ∧ q.map (·.1) = p := by
  cases h with
  | none => exact ⟨Option.none, rfl, rfl⟩
  | int i t => exact ⟨some (i, t), rfl, rfl⟩
theorem Pt.isPart {Z : Zm} {p : Option Int} {v : Value} (h : Pt Z p v) : IsPart v p := by
  cases h with
  | none => exact .none
  | int i t => exact .int i t
theorem ev_cut {e : Expr} {lo hi : Option Expr} {p pos : Pos} {fe : ET} {fl fh : OT} (he : EvOk h₀ prog w n env e fe) (hl : PtOk h₀ prog w n env lo fl) (hh : PtOk h₀ prog w n env hi fh) :
    EvOk h₀ prog w n env (.Subscript e (.Slice lo hi none p) pos) (fun σ Q => fe σ fun a H₁ => fl ⟨σ.loc, H₁⟩ fun i H₂ => fh ⟨σ.loc, H₂⟩ fun j H₃ => cutW a i j H₃ Q) := by
  intro A Z loc H s Q Q' E rm S f q
  refine Subscript_ (he A Z loc H s _ _ _ rm S f fun x a Z₁ H₁ s₁ k₁ va f₁ => wpAny_Slice ?_)
  refine hl A Z₁ loc H₁ s₁ _ _ _ rm k₁.sat f₁ fun y i Z₂ H₂ s₂ k₂ pi f₂ => ?_
  refine hh A Z₂ loc H₂ s₂ _ _ _ rm k₂.sat f₂ fun z j Z₃ H₃ s₃ k₃ pj f₃ => ?_
  refine wpAny_evalPart_none ?_
  have kk := k₁.trans (k₂.trans k₃)
  have va' := (va.mono k₂.fz.1).mono k₃.fz.1
  have kp := Kp.push s₃ { cls := .type "slice", data := .fields #[y, z, .none] }
  have k₄ := Ke.keep k₃.sat kp
  unfold cutW at f₃
  split at f₃
  · rename_i x
    cases va' with
    | str _ t =>
      obtain ⟨l, rfl, rfl⟩ := pi.part
      obtain ⟨u, rfl, rfl⟩ := pj.part
      refine tail_any (typeIs_str _ x t) PySem.F.slot_str_getitem.lookup (wpAny_getItem_str_slice (l := l) (u := u) (st := none) ⟨_, Heap.get?_push_size _ rfl, rfl, rfl⟩ rfl ?_) rfl
      refine post_val_or_str ⟨Nat.le_trans (Txt.slice_le x _ _) f₃.1, fun t' k => ?_⟩
      have e : (if ((Option.map (fun x => x.1) (none : Option (Int × Tok))).getD 1 == 1 && (slicePicked x l u none).length == x.length) = true then x else ⟨((slicePicked x l u none).filterMap (x.cps[·]?)).toArray⟩) = scut x (l.map (·.1)) (u.map (·.1)) := txt_slice x _ _
      rw [e]
      exact q _ _ _ _ _ (kk.trans (k₄.trans (Ke.toks k₄.sat k))) (.str _ t') f₃.2
  · obtain ⟨xs, hx, hsz, f₃⟩ := f₃
    obtain ⟨l, vs, rfl, hL, r⟩ := lst_isList k₃.sat va' hx
    refine tail_any (hL.push _).typeIs slot_list_getitem.lookup (wpAny_getItem_list_slice (hL.push _) (Heap.IsSliceOf.new ..) pi.isPart pj.isPart .none (by simp) ?_ (by simp [r.length]; exact hsz)) rfl
    have e : slicePick vs.toArray i j none = (cut vs i j).toArray := by rw [slicePick_plain]; simp [cut]
    rw [e]
    exact list_new k₄.sat f₃ (fun _ _ _ _ _ k v f => q _ _ _ _ _ (kk.trans (k₄.trans k)) v f) (Kp.push _ _) (get_size _) (Heap.get?_push_size _ rfl) (r.cut i j)
end
end Mine
end
section
namespace Mine
/-- the ground: the text's own objects, its names, the built-in names -/
structure Gr (K : Frag) (h₀ : Heap) : Prop where
  X : K.In h₀
  g : ∃ mg, h₀.Ns mainGlobals mg
  b : ∃ mb, h₀.Ns builtinsNs mb ∧ ∀ x : Str, x ≠ "__name__" → mb x = bootBuiltins x
  nl : h₀.NoLimit
section
variable {K : Frag} {h₀ : Heap} {prog : Program} {w : World} {n : Nat} {env : Env}
theorem Sat.keep {Z : Zm} {loc : Loc} {H : LH} {h : Heap} (S : Sat h₀ Z env loc H h) : ∀ b o, h₀.get? b = some o → h.get? b = some o := fun b o e => S.frz b o (S.base b o e)
noncomputable def NmOk (h₀ : Heap) (prog : Program) (w : World) (env : Env) (e : Expr) (fv : Value) : Prop :=
  ∀ (A : Around) (Z : Zm) (loc : Loc) (H : LH) (s : Shared) (Q' : Value → Shared → Prop) (E : Value → Shared → Prop), Sat h₀ Z env loc H s.heap → Q' fv s → wpAny (model prog w) A (eval e env) Q' E s
theorem nm_glob {x : Str} {pos : Pos} {v : Value} (G : Gr K h₀) (e : nsIn K mainGlobals x = some (some v)) (hx : env.kindOf x = some .globalImplicit) (hg : env.globals = mainGlobals) (hd : (x == ("__debug__" : Str)) = false) :
    NmOk h₀ prog w env (.Name x pos) v := fun A Z loc H s Q' E S q => by
  obtain ⟨mg, g⟩ := G.g
  exact Name_function_global S.kind hx (loadGlobal_global (by rw [hg]; exact g.keeps S.keep) (mg_of G.X g e) q) hd
theorem nm_boot {x : Str} {pos : Pos} {v : Value} (G : Gr K h₀) (e : nsIn K mainGlobals x = some none) (hv : bootBuiltins x = some v) (hn : x ≠ "__name__") (hx : env.kindOf x = some .globalImplicit) (hg : env.globals = mainGlobals) (hb : env.builtins = builtinsNs) (hd : (x == ("__debug__" : Str)) = false) :
    NmOk h₀ prog w env (.Name x pos) v := fun A Z loc H s Q' E S q => by
  obtain ⟨mg, g⟩ := G.g
  obtain ⟨mb, b, hb'⟩ := G.b
  exact Name_function_global S.kind hx (loadGlobal_builtin (by rw [hg]; exact g.keeps S.keep) (mg_none_of G.X g e) (by rw [hb]; exact b.keeps S.keep) ((hb' x hn).trans hv) q) hd
/-- what keeps a called thing -/
noncomputable def KprOk (h₀ : Heap) (prog : Program) (w : World) (fv : Value) : Prop := ∀ h : Heap, (∀ b o, h₀.get? b = some o → h.get? b = some o) → ∃ k, (k = Keeper.frame ∨ k = Keeper.machine ∨ k = Keeper.boundFrame) ∧ Looks (model prog w) h (keeperOf fv) k
theorem kpr_builtin (id : String) : KprOk h₀ prog w (.builtin id) := fun _ _ => ⟨.machine, .inr (.inl rfl), Looks.of_pure rfl⟩
theorem kpr_type (id : String) : KprOk h₀ prog w (.type id) := fun _ _ => ⟨.machine, .inr (.inl rfl), Looks.of_pure rfl⟩
theorem kpr_K {f : Value} (G : Gr K h₀) (hk : keepIn K f = true) : KprOk h₀ prog w f := fun h k => keeps_K hk h (G.X.keeps k)
/-- a call with the arguments' values -/
theorem callWith_ok {A : Around} {Z : Zm} {loc : Loc} {H : LH} {s : Shared} {pos : Pos} {fv : Value} {first : List Value} {e : Expr} {rest : List Expr} {F : EsT} {Q : List PV → LH → Prop} {Q' : Value → Shared → Prop} {E : Value → Shared → Prop}
    (hk : KprOk h₀ prog w fv) (hes : EsOk h₀ prog w n env (e :: rest) F) (rm : Rm n A) (S : Sat h₀ Z env loc H s.heap) (f : F ⟨loc, H⟩ Q)
    (q : ∀ vs ps Z' H' s', Ke h₀ env loc Z H s Z' H' s' → VRs Z' ps vs → Q ps H' → wpAny (model prog w) A (call fv (first ++ vs)) Q' E s')
    (hs : starEach (e :: rest) env = (false, eval e env) :: starEach rest env) (hp : (backTo pos (starEach rest env)).any (·.1) = false) :
    wpAny (model prog w) A (callWith pos fv first (backTo pos (starEach (e :: rest) env)) []) Q' E s := by
  have key := hes A Z loc H s pos Q (fun vs s₁ => (∀ b o, h₀.get? b = some o → s₁.heap.get? b = some o) ∧ wpAny (model prog w) A (call fv (first ++ vs)) Q' E s₁) E rm S f
    fun vs ps Z' H' s' k v f' => ⟨k.sat.keep, q vs ps Z' H' s' k v f'⟩
  rw [hs] at key ⊢
  exact callWith_of (P := fun h => ∀ b o, h₀.get? b = some o → h.get? b = some o) (by show ((false || (backTo pos (starEach rest env)).any (·.1)) || false) = false; rw [hp]; rfl) (fun h k => hk h k) (PySem.Calls.evalArgs_plain key)
theorem ev_call {x : Str} {p pos : Pos} {fv : Value} {e : Expr} {rest : List Expr} {F : EsT} {W : List PV → LH → (PV → LH → Prop) → Prop}
    (hf : NmOk h₀ prog w env (.Name x p) fv) (hk : KprOk h₀ prog w fv) (hes : EsOk h₀ prog w n env (e :: rest) F)
    (hop : ∀ loc Z H s ps vs, Sat h₀ Z env loc H s.heap → VRs Z ps vs → OpOk h₀ prog w n env loc Z H s (call fv vs) (W ps H))
    (hs : starEach (e :: rest) env = (false, eval e env) :: starEach rest env := by rfl) (hp : (backTo pos (starEach rest env)).any (·.1) = false := by rfl)
    (he : eval (.Call (.Name x p) (e :: rest) [] pos) env = (do callWith pos (← eval (.Name x p) env) [] (backTo pos (starEach (e :: rest) env)) (backToKw pos (keywordEach [] env))) := by rfl) :
    EvOk h₀ prog w n env (.Call (.Name x p) (e :: rest) [] pos) (fun σ Q => F σ fun ps H₁ => W ps H₁ Q) := by
  intro A Z loc H s Q Q' E rm S f q
  refine Call_ (hf A Z loc H s _ _ S ?_) he
  refine callWith_ok hk hes rm S f (fun vs ps Z' H' s' k v f' => ?_) hs hp
  exact hop loc Z' H' s' ps vs k.sat v A Q Q' E rm f' fun _ _ _ _ _ k' v' f'' => q _ _ _ _ _ (k.trans k') v' f''
noncomputable def lenW (a : PV) (H : LH) (Q : Nat → Prop) : Prop :=
  match a with
  | .str x => x.length < 2 ^ 62 ∧ Q x.length
  | a => ∃ xs, lstOf H a = some xs ∧ xs.length < 2 ^ 62 ∧ Q xs.length
noncomputable def lenOp (ps : List PV) (H : LH) (Q : PV → LH → Prop) : Prop := ∃ a, ps = [a] ∧ lenW a H fun k => Q (.int k) H
theorem len_ok (loc : Loc) (Z : Zm) (H : LH) (s : Shared) (ps : List PV) (vs : List Value) (S : Sat h₀ Z env loc H s.heap) (v : VRs Z ps vs) : OpOk h₀ prog w n env loc Z H s (call (.builtin "len") vs) (lenOp ps H) := by
  rintro A Q Q' E rm ⟨a, rfl, f⟩ q
  cases v with
  | cons va r =>
    cases r
    unfold lenW at f
    split at f
    · cases va with | str _ t => exact P.len_str (by have := f.1; (first | lia | omega)) (q _ _ _ _ _ (Ke.toks S _) (.int _ _) f.2)
    · obtain ⟨xs, hx, hsz, f⟩ := f
      obtain ⟨l, vs, rfl, hl, r⟩ := lst_isList S va hx
      refine call_len_list hl (by simp [r.length]; (first | lia | omega)) ?_
      rw [List.size_toArray, r.length]
      exact q _ _ _ _ _ (Ke.toks S _) (.int _ _) f
noncomputable def chrOp (ps : List PV) (H : LH) (Q : PV → LH → Prop) : Prop := ∃ i : Int, ps = [.int i] ∧ 0 ≤ i ∧ i ≤ 0x10FFFF ∧ Q (.str ⟨#[i.toNat]⟩) H
theorem chr_ok (loc : Loc) (Z : Zm) (H : LH) (s : Shared) (ps : List PV) (vs : List Value) (S : Sat h₀ Z env loc H s.heap) (v : VRs Z ps vs) : OpOk h₀ prog w n env loc Z H s (call (.builtin "chr") vs) (chrOp ps H) := by
  rintro A Q Q' E rm ⟨a, rfl, h0, h1, f⟩ q
  cases v with
  | cons va r =>
    cases r
    cases va with
    | int _ t => exact P.chr_of_int (by simp; (first | lia | omega)) (q _ _ _ _ _ (Ke.toks S _) (.str _ _) f)
noncomputable def absOp (ps : List PV) (H : LH) (Q : PV → LH → Prop) : Prop := ∃ i : Int, ps = [.int i] ∧ Q (.int (if i < 0 then -i else i)) H
noncomputable def rangeOp (ps : List PV) (H : LH) (Q : PV → LH → Prop) : Prop :=
  match ps with
  | [.int b] => Q (.rng 0 b 1) H
  | [.int a, .int b] => Q (.rng a b 1) H
  | [.int a, .int b, .int c] => c ≠ 0 ∧ c.natAbs < 1073741824 ∧ Q (.rng a b c) H
  | _ => False
theorem rng_new {loc : Loc} {Z : Zm} {H : LH} {s s' : Shared} {r : Addr} {a b c : Int} {t u v : Tok} {Q : PV → LH → Prop} {Q' : Value → Shared → Prop} (S : Sat h₀ Z env loc H s.heap) (f : Q (.rng a b c) H)
    (q : ∀ v p Z' H' s', Ke h₀ env loc Z H s Z' H' s' → VR Z' p v → Q p H' → Q' v s') (hk : Kp s s') (ha : s.heap.get? r = none) (ho : s'.heap.get? r = some { cls := .type "range", dict := none, data := .fields #[.int a t, .int b u, .int c v], slots := #[] }) : Q' (.ref r) s' := by
  have K := Ke.frozen S hk ha ho
  exact q _ _ _ _ _ K (.rng (Zm.set_self _ _ _)) f
theorem Kp.pushT (s : Shared) (o : Obj) (tk : Nat) : Kp s { s with heap := s.heap.push o, toks := tk } := ⟨_, tk, rfl, fun _ _ e => Heap.get?_push_of_some _ e⟩
theorem range_ok (loc : Loc) (Z : Zm) (H : LH) (s : Shared) (ps : List PV) (vs : List Value) (S : Sat h₀ Z env loc H s.heap) (v : VRs Z ps vs) : OpOk h₀ prog w n env loc Z H s (call (.type "range") vs) (rangeOp ps H) := by
  intro A Q Q' E rm f q
  unfold rangeOp at f
  split at f
  · cases v with
    | cons va r => cases r; cases va with | int _ t => exact call_range_1 (rng_new S f q (Kp.pushT _ _ _) (get_size _) (Heap.get?_push_size _ rfl))
  · cases v with
    | cons va r =>
      cases r with
      | cons vb r => cases r; cases va with | int _ t => cases vb with | int _ u => exact call_range_2 (rng_new S f q (Kp.pushT _ _ _) (get_size _) (Heap.get?_push_size _ rfl))
  · cases v with
    | cons va r =>
      cases r with
      | cons vb r =>
        cases r with
        | cons vc r => cases r; cases va with | int _ t => cases vb with | int _ u => cases vc with | int _ x => exact call_range_3 f.1 (rng_new S f.2.2 q (Kp.pushT _ _ _) (get_size _) (Heap.get?_push_size _ rfl)) (.inl (PyProof.noPylong_small f.2.1))
  · exact f.elim
/-- the things that a loop goes over -/
noncomputable def rngInts (a b c : Int) : List Int := (List.range (Builtin.Range.rangeSize a b c).toNat).map fun (i : Nat) => a + (i : Int) * c
noncomputable def strSigns (x : Str) : List PV := x.cps.toList.map fun c => .str ⟨#[c]⟩
noncomputable def iterOf (H : LH) : PV → Option (List PV)
  | .str x => some (strSigns x)
  | .tup xs => some xs
  | .rng a b c => if Builtin.Range.small a b c then some ((rngInts a b c).map .int) else none
  | a => lstOf H a
/-- a walker over plain items -/
structure Wk (prog : Program) (w : World) (A : Around) (Z : Zm) (xs : List PV) (I : Addr) (fp wr : List Addr) (P : Nat → Value → Prop) (St : Nat → Heap → Prop) : Prop where
  walks : Walks prog w A I fp wr xs.length P St
  item : ∀ i v, P i v → ∃ p, xs[i]? = some p ∧ VR Z p v
theorem iter_ok {A : Around} {loc : Loc} {Z : Zm} {H : LH} {s : Shared} {a : PV} {x : Value} {xs : List PV} {Q' : Value → Shared → Prop} {E : Value → Shared → Prop} (rm : Rm n A) (S : Sat h₀ Z env loc H s.heap) (va : VR Z a x) (e : iterOf H a = some xs)
    (q : ∀ I fp wr P St s', Wk prog w A Z xs I fp wr P St → Kp s s' → St 0 s'.heap → s.heap.get? I = none → (∀ i h, St i h → ∃ o, h.get? I = some o) → wr = [I] → (∀ b ∈ fp, b = I ∨ .ref b = x) → (∀ b ∈ fp, b < s'.heap.objs.size) → Q' (.ref I) s') :
    wpAny (model prog w) A (pyIter x) Q' E s := by
  have fresh := get_size s.heap
  have hlt : ∀ o, s.heap.objs.size < (s.heap.push o).objs.size := fun o => by rw [Heap.size_push]; exact Nat.lt_succ_self _
  have lists : ∀ {l : Addr} {vs : List Value}, x = .ref l → s.heap.IsList l vs.toArray → VRs Z xs vs → wpAny (model prog w) A (pyIter x) Q' E s := by
    intro l vs hx hl r
    subst hx
    refine wpAny_pyIter_list hl ?_
    obtain ⟨ol, hol, _⟩ := id hl
    have hne : l ≠ s.heap.objs.size := Nat.ne_of_lt (Heap.lt_size hol)
    have W := Walks.list (prog := prog) (w := w) rm.hd s.heap.objs.size l hne vs.toArray
    have hn : vs.toArray.size = xs.length := by rw [List.size_toArray, r.length]
    rw [hn] at W
    refine q _ _ _ _ _ _ ⟨W, fun i v hp => r.get' (by simpa using hp)⟩ (Kp.push _ _) ⟨⟨_, Heap.get?_push_size _ rfl, rfl, rfl⟩, hl.at fun o e => Heap.get?_push_of_some _ e⟩ fresh (fun _ _ st => let ⟨o, e, _⟩ := st.1; ⟨o, e⟩) rfl ?_ ?_
    · intro b hb
      rcases List.mem_cons.mp hb with h | h
      · exact .inl h
      · exact .inr (by rw [List.mem_singleton.mp h])
    · intro b hb
      rcases List.mem_cons.mp hb with h | h
      · rw [h]; exact hlt _
      · rw [List.mem_singleton.mp h]; exact Nat.lt_trans (Heap.lt_size hol) (hlt _)
  cases va with
  | str y t =>
    cases e
    have hl : y.cps.size = (strSigns y).length := by simp [strSigns]
    have item : ∀ i v, SignAt y i v → ∃ p, (strSigns y)[i]? = some p ∧ VR Z p v := by
      rintro i v ⟨c, u, hc, rfl⟩
      exact ⟨.str ⟨#[c]⟩, by simp [strSigns, hc], .str _ u⟩
    cases ha : y.cps.all (· < 128) with
    | false =>
      have W := Walks.strWide (prog := prog) (w := w) rm.hd s.heap.objs.size y t
      rw [hl] at W
      exact wpAny_pyIter_wide ha (q _ _ _ _ _ _ ⟨W, item⟩ (Kp.push _ _) ⟨_, Heap.get?_push_size _ rfl, rfl, rfl⟩ fresh (fun _ _ st => let ⟨o, e, _⟩ := st; ⟨o, e⟩) rfl (fun b hb => .inl (List.mem_singleton.mp hb)) fun b hb => by rw [List.mem_singleton.mp hb]; exact hlt _)
    | true =>
      have W := Walks.strAscii (prog := prog) (w := w) rm.hd s.heap.objs.size y t
      rw [hl] at W
      exact wpAny_pyIter_ascii ha (q _ _ _ _ _ _ ⟨W, item⟩ (Kp.push _ _) ⟨_, Heap.get?_push_size _ rfl, rfl, rfl⟩ fresh (fun _ _ st => let ⟨o, e, _⟩ := st; ⟨o, e⟩) rfl (fun b hb => .inl (List.mem_singleton.mp hb)) fun b hb => by rw [List.mem_singleton.mp hb]; exact hlt _)
  | tup z r =>
    rename_i l vs k ys
    cases e
    have ho := S.frz _ _ z
    have hT : s.heap.IsTuple l vs.toArray := ⟨_, ho, rfl, _, rfl⟩
    refine wpAny_pyIter_tuple hT ?_
    have hne : l ≠ s.heap.objs.size := Nat.ne_of_lt (Heap.lt_size ho)
    have W := Walks.tuple (prog := prog) (w := w) rm.hd s.heap.objs.size l hne vs.toArray
    have hn : vs.toArray.size = xs.length := by rw [List.size_toArray, r.length]
    rw [hn] at W
    refine q _ _ _ _ _ _ ⟨W, fun i v hp => r.get' (by simpa using hp)⟩ (Kp.push _ _) ⟨⟨_, Heap.get?_push_size _ rfl, rfl, rfl⟩, hT.at fun o e => Heap.get?_push_of_some _ e⟩ fresh (fun _ _ st => let ⟨o, e, _⟩ := st.1; ⟨o, e⟩) rfl ?_ ?_
    · intro b hb
      rcases List.mem_cons.mp hb with h | h
      · exact .inl h
      · exact .inr (by rw [List.mem_singleton.mp h])
    · intro b hb
      rcases List.mem_cons.mp hb with h | h
      · rw [h]; exact hlt _
      · rw [List.mem_singleton.mp h]; exact Nat.lt_trans (Heap.lt_size ho) (hlt _)
  | rng z =>
    rename_i r a b c t u v
    change (if Builtin.Range.small a b c then some ((rngInts a b c).map PV.int) else none) = some xs at e
    split at e
    · rename_i hsm
      cases e
      have hr : IsRange s.heap r a b c t u v := S.frz _ _ z
      refine wpAny_pyIter_range hr hsm ?_
      have hpos : 0 ≤ Builtin.Range.rangeSize a b c := by
        unfold Builtin.Range.rangeSize
        split
        · split
          · have := Int.ediv_nonneg (a := b - a - 1) (b := c) (by (first | lia | omega)) (by (first | lia | omega)); (first | lia | omega)
          · (first | lia | omega)
        · split
          · have := Int.ediv_nonneg (a := a - b - 1) (b := -c) (by (first | lia | omega)) (by (first | lia | omega)); (first | lia | omega)
          · (first | lia | omega)
      have W := Walks.range (prog := prog) (w := w) rm.hd s.heap.objs.size a c (Builtin.Range.rangeSize a b c).toNat
      have W' := W.bound
      have hn : (Builtin.Range.rangeSize a b c).toNat = ((rngInts a b c).map PV.int).length := by simp [rngInts]
      rw [hn] at W'
      refine q _ _ _ _ _ _ ⟨W', fun i x hp => ?_⟩ (Kp.push _ _) ?_ fresh (fun _ _ st => ⟨_, st⟩) rfl (fun b hb => .inl (List.mem_singleton.mp hb)) fun b hb => by rw [List.mem_singleton.mp hb]; exact hlt _
      · obtain ⟨hi, t', rfl⟩ := hp
        rw [← hn] at hi
        exact ⟨.int (a + (i : Int) * c), by simp [rngInts, hi], .int _ _⟩
      · show IsRangeIter _ _ _ _ _
        rw [← hn]
        have e1 : ((Builtin.Range.rangeSize a b c).toNat : Int) - ((0 : Nat) : Int) = Builtin.Range.rangeSize a b c := by (first | lia | omega)
        have e2 : a + ((0 : Nat) : Int) * c = a := by simp
        rw [e1, e2]
        exact Heap.get?_push_size _ rfl
    · cases e
  | lst z r =>
    cases e
    exact lists rfl ⟨_, S.frz _ _ z, rfl, _, rfl⟩ r
  | ref a =>
    obtain ⟨l, vs, hx, hl, r⟩ := lst_isList S (VR.ref a) e
    exact lists hx hl r
  | _ => cases e
end
end Mine
end
section
namespace Mine
theorem toNat_inj {c d : Char} (h : c.toNat = d.toNat) : c = d := Char.toNat_inj.mp h
theorem map_toNat_inj : ∀ {a b : List Char}, a.map Char.toNat = b.map Char.toNat → a = b
  | [], [], _ => rfl
  | [], _ :: _, h => by cases h
  | _ :: _, [], h => by cases h
  | c :: a, d :: b, h => by
    simp only [List.map_cons, List.cons.injEq] at h
    rw [toNat_inj h.1, map_toNat_inj h.2]
theorem ofString_inj {a b : String} (h : Str.ofString a = Str.ofString b) : a = b := by
  rw [Str.ofString_eq_toList, Str.ofString_eq_toList] at h
  have h1 := congrArg (fun s => s.cps.toList) h
  simp only at h1
  exact String.toList_inj.mp (map_toNat_inj h1)
inductive Fl where
  | next
  | brk
  | cont
  | ret (p : PV)
inductive FlR (Z : Zm) : Fl → Flow → Prop
  | next : FlR Z .next .next
  | brk : FlR Z .brk .brk
  | cont : FlR Z .cont .cont
  | ret {p : PV} {v : Value} : VR Z p v → FlR Z (.ret p) (.ret v)
/-- what a statement leaves -/
structure Sk (h₀ : Heap) (env : Env) (loc : Loc) (Z : Zm) (H : LH) (s : Shared) (loc' : Loc) (Z' : Zm) (H' : LH) (s' : Shared) : Prop where
  sat : Sat h₀ Z' env loc' H' s'.heap
  sh : ∃ h' tk, s' = { s with heap := h', toks := tk }
  frm : ∀ b o, s.heap.get? b = some o → b ≠ env.locals → (∀ n, (n, b) ∉ env.cells) → (∀ xs, H b ≠ some ⟨true, xs⟩) → s'.heap.get? b = some o
  live : ∀ b o, s.heap.get? b = some o → ∃ o', s'.heap.get? b = some o'
  fz : Fresh s Z Z'
  fh : ∀ a l', H' a = some l' → (∃ l, H a = some l ∧ (l'.mu = true → l.mu = true)) ∨ s.heap.get? a = none
section
variable {h₀ : Heap} {env : Env} {loc loc₁ loc₂ : Loc} {Z Z' Z₁ Z₂ : Zm} {H H' H₁ H₂ : LH} {s s' s₁ s₂ : Shared}
theorem Sk.trans (a : Sk h₀ env loc Z H s loc₁ Z₁ H₁ s₁) (b : Sk h₀ env loc₁ Z₁ H₁ s₁ loc₂ Z₂ H₂ s₂) : Sk h₀ env loc Z H s loc₂ Z₂ H₂ s₂ where
  sat := b.sat
  sh := by
    obtain ⟨h, t, rfl⟩ := a.sh
    obtain ⟨h', t', rfl⟩ := b.sh
    exact ⟨h', t', rfl⟩
  frm := fun x o e h1 h2 h3 => b.frm x o (a.frm x o e h1 h2 h3) h1 h2 fun xs hx => by
    rcases a.fh x _ hx with ⟨l, hl, hm⟩ | hn
    · cases l with | mk mu ys => have := hm rfl; simp only at this; subst this; exact h3 ys hl
    · rw [hn] at e; cases e
  live := fun x o e => let ⟨o', e'⟩ := a.live x o e; b.live x o' e'
  fz := ⟨a.fz.1.trans b.fz.1, fun x h h' => by
    cases q : Z₁ x with
    | none =>
      have := b.fz.2 x q h'
      cases r : s.heap.get? x with
      | none => rfl
      | some o => obtain ⟨o', e'⟩ := a.live x o r; rw [this] at e'; cases e'
    | some o => exact a.fz.2 x h (by rw [q]; exact Option.some_ne_none o)⟩
  fh := fun x l' e => by
    rcases b.fh x l' e with ⟨l, hl, hm⟩ | hn
    · rcases a.fh x l hl with ⟨l₀, hl₀, hm₀⟩ | hn
      · exact .inl ⟨l₀, hl₀, fun h => hm₀ (hm h)⟩
      · exact .inr hn
    · refine .inr ?_
      cases r : s.heap.get? x with
      | none => rfl
      | some o => obtain ⟨o', e'⟩ := a.live x o r; rw [hn] at e'; cases e'
theorem Ke.sk (k : Ke h₀ env loc Z H s Z' H' s') : Sk h₀ env loc Z H s loc Z' H' s' where
  sat := k.sat
  sh := let ⟨h, t, e, _⟩ := k.kp; ⟨h, t, e⟩
  frm := fun _ _ e _ _ _ => k.kp.get e
  live := fun _ o e => ⟨o, k.kp.get e⟩
  fz := k.fz
  fh := fun a l' e => by
    cases q : H a with
    | none => exact .inr (k.fh.2 a q (by rw [e]; exact Option.some_ne_none _))
    | some l => rw [k.fh.1 a l q] at e; cases e; exact .inl ⟨_, rfl, fun h => h⟩
theorem Sk.refl (S : Sat h₀ Z env loc H s.heap) : Sk h₀ env loc Z H s loc Z H s := (Ke.refl S).sk
end
abbrev XT := St → (Fl → St → Prop) → Prop
noncomputable def ExOk (h₀ : Heap) (prog : Program) (w : World) (n : Nat) (env : Env) (st : Stmt) (F : XT) : Prop :=
  ∀ (A : Around) (Z : Zm) (loc : Loc) (H : LH) (s : Shared) (Q : Fl → St → Prop) (Q' : Flow → Shared → Prop) (E : Value → Shared → Prop),
    Rm n A → Sat h₀ Z env loc H s.heap → F ⟨loc, H⟩ Q →
    (∀ fl p loc' Z' H' s', Sk h₀ env loc Z H s loc' Z' H' s' → FlR Z' p fl → Q p ⟨loc', H'⟩ → Q' fl s') → wpAny (model prog w) A (exec st env) Q' E s
noncomputable def XsOk (h₀ : Heap) (prog : Program) (w : World) (n : Nat) (env : Env) (sts : List Stmt) (F : XT) : Prop :=
  ∀ (A : Around) (Z : Zm) (loc : Loc) (H : LH) (s : Shared) (Q : Fl → St → Prop) (Q' : Flow → Shared → Prop) (E : Value → Shared → Prop),
    Rm n A → Sat h₀ Z env loc H s.heap → F ⟨loc, H⟩ Q →
    (∀ fl p loc' Z' H' s', Sk h₀ env loc Z H s loc' Z' H' s' → FlR Z' p fl → Q p ⟨loc', H'⟩ → Q' fl s') → wpAny (model prog w) A (execs sts env) Q' E s
section
variable {h₀ : Heap} {prog : Program} {w : World} {n : Nat} {env : Env}
theorem xs_nil : XsOk h₀ prog w n env [] (fun σ Q => Q .next σ) := fun _ _ _ _ _ _ _ _ _ S f q => wpAny_execs_nil (q _ _ _ _ _ _ (Sk.refl S) .next f)
/-- one statement behind the other -/
noncomputable def seqT (fs fr : XT) : XT := fun σ Q => fs σ fun fl σ₁ => match fl with | .next => fr σ₁ Q | fl => Q fl σ₁
theorem seq_to {f g : XT} {σ : St} {Q : Fl → St → Prop} (σ₁ : St) (h1 : ∀ R : Fl → St → Prop, R .next σ₁ → f σ R) (h2 : g σ₁ Q) : seqT f g σ Q := h1 _ h2
theorem seq_ex {f g : XT} {σ : St} {Q : Fl → St → Prop} (I : St → Prop) (h1 : ∀ R : Fl → St → Prop, (∀ σ', I σ' → R .next σ') → f σ R) (h2 : ∀ σ', I σ' → g σ' Q) : seqT f g σ Q := h1 _ h2
theorem seq_or {f g : XT} {σ : St} {Q : Fl → St → Prop} (I : St → Prop) (h1 : ∀ R : Fl → St → Prop, (∀ σ', I σ' → R .next σ') → (∀ p σ', Q (.ret p) σ' → R (.ret p) σ') → f σ R) (h2 : ∀ σ', I σ' → g σ' Q) : seqT f g σ Q := h1 _ h2 fun _ _ h => h
theorem seq_ret {f g : XT} {σ : St} {Q : Fl → St → Prop} (σ₁ : St) {p : PV} (h1 : ∀ R : Fl → St → Prop, R (.ret p) σ₁ → f σ R) (h2 : Q (.ret p) σ₁) : seqT f g σ Q := h1 _ h2
theorem xs_cons {st : Stmt} {rest : List Stmt} {fs fr : XT} (hs : ExOk h₀ prog w n env st fs) (hr : XsOk h₀ prog w n env rest fr) :
    XsOk h₀ prog w n env (st :: rest) (seqT fs fr) := by
  intro A Z loc H s Q Q' E rm S f q
  refine wpAny_execs_cons (hs A Z loc H s _ _ _ rm S f fun fl p loc₁ Z₁ H₁ s₁ k₁ vf f₁ => ?_)
  cases vf with
  | next => exact hr A Z₁ loc₁ H₁ s₁ Q Q' E rm k₁.sat f₁ fun _ _ _ _ _ _ k v f => q _ _ _ _ _ _ (k₁.trans k) v f
  | brk => exact q _ _ _ _ _ _ k₁ .brk f₁
  | cont => exact q _ _ _ _ _ _ k₁ .cont f₁
  | ret v => exact q _ _ _ _ _ _ k₁ (.ret v) f₁
/-- a name stored -/
theorem store_ok {A : Around} {Z : Zm} {loc : Loc} {H : LH} {s : Shared} {x : String} {p : PV} {v : Value} {Q' : Unit → Shared → Prop} {E : Value → Shared → Prop} (S : Sat h₀ Z env loc H s.heap) (hv : VR Z p v)
    (hk : env.kindOf (Str.ofString x) = some .local ∨ (env.kindOf (Str.ofString x) = some .cell ∧ (env.cells.lookup (Str.ofString x)).isSome = true))
    (q : ∀ s', Sk h₀ env loc Z H s (loc.set x p) Z H s' → Q' () s') : wpAny (model prog w) A (storeName env (Str.ofString x) v) Q' E s := by
  obtain ⟨m, hm, hl⟩ := S.ns
  obtain ⟨oL, eL⟩ := S.nsAt
  have neZ : ∀ {a : Addr} {o : Obj}, Z a = some o → a ≠ env.locals := fun {a o} e h => by rw [h, S.nsZ] at e; cases e
  have neC : ∀ {n : Str} {c : Addr}, (n, c) ∈ env.cells → c ≠ env.locals := fun {n c} hc h => by
    obtain ⟨_, w, o, e, d⟩ := S.cellZ n c hc
    obtain ⟨o', es, ep, e', d', _⟩ := hm
    rw [h, e'] at e; cases e; rw [d'] at d; cases d
  have neH : ∀ {a : Addr} {l : LO}, H a = some l → a ≠ env.locals := fun {a l} e h => by
    obtain ⟨_, vs, k, e', _⟩ := S.obj a l e
    obtain ⟨o', es, ep, e'', d', _⟩ := hm
    rw [h, e''] at e'; cases e'; cases d'
  rcases hk with hk | ⟨hk, hc⟩
  · refine wpAny_storeName_local hk hm (fun h' hn hs => q _ ⟨⟨S.base, ?_, S.nsZ, ?_, S.cellN, S.kind, ⟨_, hn, ?_⟩, ?_⟩, ⟨h', _, rfl⟩, ?_, ?_, Fresh.refl s Z, fun a l' e => .inl ⟨l', e, fun h => h⟩⟩) (by rw [S.kind]; rfl)
    · exact fun a o e => (hs.2 a (neZ e)).trans (S.frz a o e)
    · intro n c hm'
      obtain ⟨z, w', o, e, d⟩ := S.cellZ n c hm'
      exact ⟨z, w', o, (hs.2 c (neC hm')).trans e, d⟩
    · intro y p' e
      by_cases hy : y = x
      · subst hy
        rw [Loc.set_self] at e; cases e
        exact .loc v hk (by simp) hv
      · rw [Loc.set_ne _ _ hy] at e
        cases hl y p' e with
        | loc v' a b c => exact .loc v' a (by rw [if_neg fun h => hy (ofString_inj h)]; exact b) c
        | cell c v' a b d g =>
          have hmem : (Str.ofString y, c) ∈ env.cells := by
            obtain ⟨l1, l2, h1, _⟩ := List.lookup_eq_some_iff.mp b
            rw [h1]; simp
          exact .cell c v' a b (d.sameBut hs (neC hmem)) g
    · intro a l e
      obtain ⟨z, vs, k, e', r⟩ := S.obj a l e
      exact ⟨z, vs, k, (hs.2 a (neH e)).trans e', r⟩
    · exact fun b o e h1 _ _ => (hs.2 b h1).trans e
    · intro b o e
      by_cases hb : b = env.locals
      · subst hb
        obtain ⟨o', _, _, e', _⟩ := hn
        exact ⟨o', e'⟩
      · exact ⟨o, (hs.2 b hb).trans e⟩
  · obtain ⟨c, hc⟩ := Option.isSome_iff_exists.mp hc
    have hmem : (Str.ofString x, c) ∈ env.cells := by
      obtain ⟨l1, l2, h1, _⟩ := List.lookup_eq_some_iff.mp hc
      rw [h1]; simp
    obtain ⟨zc, w₀, hw⟩ := S.cellZ _ _ hmem
    have ec := hw
    obtain ⟨oc, eoc, doc⟩ := hw
    have nZ : ∀ {a : Addr} {o : Obj}, Z a = some o → a ≠ c := fun {a o} e h => by rw [h, zc] at e; cases e
    have nH : ∀ {a : Addr} {l : LO}, H a = some l → a ≠ c := fun {a l} e h => by
      obtain ⟨_, vs, k, e', _⟩ := S.obj a l e
      rw [h, eoc] at e'; cases e'; cases doc
    have uniq : ∀ {n : Str}, (n, c) ∈ env.cells → n = Str.ofString x := fun {n} hn => by
      have nd := S.cellN
      have : ∀ {l : List (Str × Addr)}, (l.map (·.2)).Nodup → (n, c) ∈ l → (Str.ofString x, c) ∈ l → n = Str.ofString x := by
        intro l
        induction l with
        | nil => intro _ h _; cases h
        | cons a r ih =>
          intro nd h1 h2
          simp only [List.map_cons, List.nodup_cons] at nd
          rcases List.mem_cons.mp h1 with e1 | h1
          · rcases List.mem_cons.mp h2 with e2 | h2
            · rw [← e1] at e2; exact (congrArg Prod.fst e2).symm
            · exact absurd (List.mem_map.mpr ⟨_, h2, by rw [← e1]⟩) nd.1
          · rcases List.mem_cons.mp h2 with e2 | h2
            · exact absurd (List.mem_map.mpr ⟨_, h1, by rw [← e2]⟩) nd.1
            · exact ih nd.2 h1 h2
      exact this nd hn hmem
    refine wpAny_storeName_cell S.kind hk hc ec fun h' hn hs => q _ ⟨⟨S.base, ?_, S.nsZ, ?_, S.cellN, S.kind, ⟨m, hm.sameBut hs (Ne.symm (neC hmem)), ?_⟩, ?_⟩, ⟨h', s.toks, rfl⟩, ?_, ?_, Fresh.refl s Z, fun a l' e => .inl ⟨l', e, fun h => h⟩⟩
    · exact fun a o e => (hs.2 a (nZ e)).trans (S.frz a o e)
    · intro n c' hm'
      by_cases hcc : c' = c
      · subst hcc; exact ⟨zc, _, hn⟩
      · obtain ⟨z, w', o, e, d⟩ := S.cellZ n c' hm'
        exact ⟨z, w', o, (hs.2 c' hcc).trans e, d⟩
    · intro y p' e
      by_cases hy : y = x
      · subst hy
        rw [Loc.set_self] at e; cases e
        exact .cell c v (.inl hk) hc hn hv
      · rw [Loc.set_ne _ _ hy] at e
        cases hl y p' e with
        | loc v' a b c => exact .loc v' a b c
        | cell c' v' a b d g =>
          have hmem' : (Str.ofString y, c') ∈ env.cells := by
            obtain ⟨l1, l2, h1, _⟩ := List.lookup_eq_some_iff.mp b
            rw [h1]; simp
          have hne : c' ≠ c := fun h => hy (ofString_inj (uniq (h ▸ hmem')))
          exact .cell c' v' a b (d.sameBut hs hne) g
    · intro a l e
      obtain ⟨z, vs, k, e', r⟩ := S.obj a l e
      exact ⟨z, vs, k, (hs.2 a (nH e)).trans e', r⟩
    · exact fun b o e _ h2 _ => (hs.2 b fun h => h2 _ (h ▸ hmem)).trans e
    · intro b o e
      by_cases hb : b = c
      · subst hb
        obtain ⟨o', e', _⟩ := hn
        exact ⟨o', e'⟩
      · exact ⟨o, (hs.2 b hb).trans e⟩
end
end Mine
end
section
namespace Mine
/-- where a name of the frame's is kept -/
noncomputable def Stores (env : Env) (x : String) : Prop := env.kindOf (Str.ofString x) = some .local ∨ (env.kindOf (Str.ofString x) = some .cell ∧ (env.cells.lookup (Str.ofString x)).isSome = true)
section
variable {h₀ : Heap} {prog : Program} {w : World} {n : Nat} {env : Env}
theorem st_assign {x : String} {pos' pos : Pos} {e : Expr} {fe : ET} (he : EvOk h₀ prog w n env e fe) (hk : Stores env x)
    (hs : swapsWith e (some (.Name (Str.ofString x) pos')) pos.line env = pure false := by rfl) :
    ExOk h₀ prog w n env (.Assign [.Name (Str.ofString x) pos'] e pos) (fun σ Q => fe σ fun a H₁ => Q .next ⟨σ.loc.set x a, H₁⟩) := by
  intro A Z loc H s Q Q' E rm S f q
  refine wpAny_Assign_Name (he A Z loc H s _ _ _ rm S f fun v a Z₁ H₁ s₁ k₁ va f₁ => ?_) hs
  exact store_ok k₁.sat va hk fun s' k₂ => q _ _ _ _ _ _ (k₁.sk.trans k₂) .next f₁
theorem st_aug {x : String} {pos' pos : Pos} {op : Operator} {e : Expr} {fe : ET} (he : EvOk h₀ prog w n env e fe) (hk : Stores env x) (hn : (Str.ofString x == ("__classdict__" : Str)) = false) :
    ExOk h₀ prog w n env (.AugAssign (.Name (Str.ofString x) pos') op e pos) (fun σ Q => getW (σ.loc x) fun a => fe σ fun b H₁ => inW op a b H₁ fun c H₂ => Q .next ⟨σ.loc.set x c, H₂⟩) := by
  intro A Z loc H s Q Q' E rm S f q
  obtain ⟨p, e, f⟩ := f
  refine wpAny_AugAssign_Name (load_ok S e (fun v hv => ?_) hn)
  refine he A Z loc H s _ _ _ rm S f fun y b Z₁ H₁ s₁ k₁ vb f₁ => ?_
  refine in_ok op loc Z₁ H₁ s₁ p b v y k₁.sat (hv.mono k₁.fz.1) vb A _ _ _ rm f₁ fun z c Z₂ H₂ s₂ k₂ vc f₂ => ?_
  exact store_ok k₂.sat vc hk fun s' k₃ => q _ _ _ _ _ _ ((k₁.trans k₂).sk.trans k₃) .next f₂
theorem st_if {t : Expr} {b o : List Stmt} {pos : Pos} {ft : BT} {fb fo : XT} (ht : BtOk h₀ prog w n env t ft) (hb : XsOk h₀ prog w n env b fb) (ho : XsOk h₀ prog w n env o fo) :
    ExOk h₀ prog w n env (.If t b o pos) (fun σ Q => ft σ fun c H₁ => if c then fb ⟨σ.loc, H₁⟩ Q else fo ⟨σ.loc, H₁⟩ Q) := by
  intro A Z loc H s Q Q' E rm S f q
  refine wpAny_If (ht A Z loc H s _ _ _ rm S f fun c Z₁ H₁ s₁ k₁ f₁ => ?_)
  cases c with
  | true => exact hb A Z₁ loc H₁ s₁ Q Q' E rm k₁.sat f₁ fun _ _ _ _ _ _ k v f => q _ _ _ _ _ _ (k₁.sk.trans k) v f
  | false => exact ho A Z₁ loc H₁ s₁ Q Q' E rm k₁.sat f₁ fun _ _ _ _ _ _ k v f => q _ _ _ _ _ _ (k₁.sk.trans k) v f
theorem st_ret {e : Expr} {pos : Pos} {fe : ET} (he : EvOk h₀ prog w n env e fe) : ExOk h₀ prog w n env (.Return (some e) pos) (fun σ Q => fe σ fun a H₁ => Q (.ret a) ⟨σ.loc, H₁⟩) := by
  intro A Z loc H s Q Q' E rm S f q
  exact wpAny_Return_some (he A Z loc H s _ _ _ rm S f fun v a Z₁ H₁ s₁ k₁ va f₁ => q _ _ _ _ _ _ k₁.sk (.ret va) f₁)
theorem st_ret0 {pos : Pos} : ExOk h₀ prog w n env (.Return none pos) (fun σ Q => Q (.ret .none) σ) :=
  fun _ _ _ _ _ _ _ _ _ S f q => wpAny_Return_none (q _ _ _ _ _ _ (Sk.refl S) (.ret .none) f)
/-- while: k turns at most -/
noncomputable def whileW (ft : BT) (fb : XT) : Nat → St → (Fl → St → Prop) → Prop
  | 0, _, _ => False
  | k + 1, σ, Q => ft σ fun c H₁ => if c then fb ⟨σ.loc, H₁⟩ fun fl σ' => match fl with
      | .next => whileW ft fb k σ' Q
      | .cont => whileW ft fb k σ' Q
      | .brk => Q .next σ'
      | .ret p => Q (.ret p) σ'
    else Q .next ⟨σ.loc, H₁⟩
theorem st_while {t : Expr} {b : List Stmt} {pos : Pos} {ft : BT} {fb : XT} (ht : BtOk h₀ prog w n env t ft) (hb : XsOk h₀ prog w n env b fb) :
    ExOk h₀ prog w n env (.While t b [] pos) (fun σ Q => ∃ k, whileW ft fb k σ Q) := by
  rintro A Z loc H s Q Q' E rm S ⟨k, f⟩ q
  refine wpAny_While ?_
  refine codeAny_whileLoop (R := fun r s' => match r with | .ok f => Q' f s' | .error e => cameBackBy (model prog w) A env E e s')
    (fun k' s' => ∃ loc' Z' H', Sk h₀ env loc Z H s loc' Z' H' s' ∧ whileW ft fb k' ⟨loc', H'⟩ Q) ?_ k ⟨loc, Z, H, Sk.refl S, f⟩
  rintro k' s' ⟨loc', Z', H', K, f'⟩
  cases k' with
  | zero => exact f'.elim
  | succ k' =>
    refine ht A Z' loc' H' s' _ _ _ rm K.sat f' fun c Z₁ H₁ s₁ k₁ f₁ => ?_
    have K₁ := K.trans k₁.sk
    cases c with
    | true =>
      refine hb A Z₁ loc' H₁ s₁ _ _ _ rm k₁.sat f₁ fun fl p loc₂ Z₂ H₂ s₂ k₂ vf f₂ => ?_
      cases vf with
      | next => exact ⟨k', Nat.lt_succ_self _, loc₂, Z₂, H₂, K₁.trans k₂, f₂⟩
      | cont => exact ⟨k', Nat.lt_succ_self _, loc₂, Z₂, H₂, K₁.trans k₂, f₂⟩
      | brk => exact q _ _ _ _ _ _ (K₁.trans k₂) .next f₂
      | ret v => exact q _ _ _ _ _ _ (K₁.trans k₂) (.ret v) f₂
    | false => exact wpAny_execs_nil (q _ _ _ _ _ _ K₁ .next f₁)
/-- for: the items one by one; what is done with an item ahead of the body -/
noncomputable def forW (fa : PV → St → (St → Prop) → Prop) (fb : XT) : List PV → St → (Fl → St → Prop) → Prop
  | [], σ, Q => Q .next σ
  | p :: r, σ, Q => fa p σ fun σ₁ => fb σ₁ fun fl σ' => match fl with
      | .next => forW fa fb r σ' Q
      | .cont => forW fa fb r σ' Q
      | .brk => Q .next σ'
      | .ret p => Q (.ret p) σ'
/-- an item assigned -/
noncomputable def AsOk (h₀ : Heap) (prog : Program) (w : World) (env : Env) (t : Expr) (fa : PV → St → (St → Prop) → Prop) : Prop :=
  ∀ (A : Around) (Z : Zm) (loc : Loc) (H : LH) (s : Shared) (p : PV) (v : Value) (Q : St → Prop) (Q' : Unit → Shared → Prop) (E : Value → Shared → Prop),
    A.handled = none → Sat h₀ Z env loc H s.heap → VR Z p v → fa p ⟨loc, H⟩ Q → (∀ loc' Z' H' s', Sk h₀ env loc Z H s loc' Z' H' s' → Q ⟨loc', H'⟩ → Q' () s') → wpAny (model prog w) A (assign t env v) Q' E s
theorem as_name {x : String} {pos : Pos} (hk : Stores env x) : AsOk h₀ prog w env (.Name (Str.ofString x) pos) (fun p σ Q => Q ⟨σ.loc.set x p, σ.H⟩) :=
  fun A Z loc H s p v Q Q' E hh S hv f q => wpAny_assign_Name (store_ok S hv hk fun s' k => q _ _ _ _ k f)
/-- is a list that may be changed gone over? -/
noncomputable def iterOk : PV → Prop
  | .ref _ => False
  | _ => True
theorem mem_of_lookup {l : List (Str × Addr)} {x : Str} {c : Addr} (h : l.lookup x = some c) : (x, c) ∈ l := by
  obtain ⟨l1, l2, h1, _⟩ := List.lookup_eq_some_iff.mp h
  rw [h1]; simp
/-- a walker goes one on -/
theorem Sk.walk {loc loc' : Loc} {Z Z' : Zm} {H H' : LH} {s s' : Shared} {I : Addr} {h' : Heap} {tk : Nat} (K : Sk h₀ env loc Z H s loc' Z' H' s') (S : Sat h₀ Z env loc H s.heap)
    (hk : ∀ b o, b ≠ I → s'.heap.get? b = some o → h'.get? b = some o) (hI : s.heap.get? I = none) (hZ : Z' I = none) (hH : H' I = none) : Sk h₀ env loc Z H s loc' Z' H' { s' with heap := h', toks := tk } := by
  have iL : env.locals ≠ I := fun h => by
    obtain ⟨oL, eL⟩ := S.nsAt
    rw [h, hI] at eL; cases eL
  have iC : ∀ m c, (m, c) ∈ env.cells → c ≠ I := fun m c hm h => by
    obtain ⟨_, _, oc, ec, _⟩ := S.cellZ m c hm
    rw [h, hI] at ec; cases ec
  have iZ : ∀ a o, Z' a = some o → a ≠ I := fun a o e h => by rw [h, hZ] at e; cases e
  have iH : ∀ a l, H' a = some l → a ≠ I := fun a l e h => by rw [h, hH] at e; cases e
  have i0 : ∀ a o, s.heap.get? a = some o → a ≠ I := fun a o e h => by rw [h, hI] at e; cases e
  have S' := K.sat
  refine ⟨⟨S'.base, fun a o e => hk a o (iZ a o e) (S'.frz a o e), S'.nsZ, fun m c hm => ?_, S'.cellN, S'.kind, ?_, fun a l e => ?_⟩, ?_, ?_, ?_, K.fz, K.fh⟩
  · obtain ⟨z, w', o, e, d⟩ := S'.cellZ m c hm
    exact ⟨z, w', o, hk c o (iC m c hm) e, d⟩
  · obtain ⟨m, hm, hl⟩ := S'.ns
    refine ⟨m, hm.at' fun o e => hk _ o iL e, fun y p e => ?_⟩
    cases hl y p e with
    | loc v a b c => exact .loc v a b c
    | cell c v a b d g =>
      obtain ⟨o, eo, d'⟩ := d
      exact .cell c v a b ⟨o, hk c o (iC _ c (mem_of_lookup b)) eo, d'⟩ g
  · obtain ⟨z, vs, k, e', r⟩ := S'.obj a l e
    exact ⟨z, vs, k, hk a _ (iH a l e) e', r⟩
  · obtain ⟨h, t, rfl⟩ := K.sh
    exact ⟨h', tk, rfl⟩
  · exact fun b o e h1 h2 h3 => hk b o (i0 b o e) (K.frm b o e h1 h2 h3)
  · intro b o e
    obtain ⟨o', e'⟩ := K.live b o e
    exact ⟨o', hk b o' (i0 b o e) e'⟩
theorem Sk.noZ {loc loc' : Loc} {Z Z' : Zm} {H H' : LH} {s s' : Shared} {I : Addr} {o : Obj} (K : Sk h₀ env loc Z H s loc' Z' H' s') (e : s.heap.get? I = some o) (hZ : Z I = none) : Z' I = none := by
  cases q : Z' I with
  | none => rfl
  | some o' => have := K.fz.2 I hZ (by rw [q]; exact Option.some_ne_none _); rw [e] at this; cases this
theorem Sk.noH {loc loc' : Loc} {Z Z' : Zm} {H H' : LH} {s s' : Shared} {I : Addr} {o : Obj} (K : Sk h₀ env loc Z H s loc' Z' H' s') (e : s.heap.get? I = some o) (hH : H I = none) : H' I = none := by
  cases q : H' I with
  | none => rfl
  | some l =>
    rcases K.fh I l q with ⟨l', hl, _⟩ | hn
    · rw [hH] at hl; cases hl
    · rw [e] at hn; cases hn
/-- what the loop does with the item's old tuple says nothing of the plain state -/
noncomputable def LoOk (prog : Program) (w : World) (A : Around) (t : Expr) (I : Addr) (Sp : Nat → Heap → Prop) (fa : PV → St → (St → Prop) → Prop) : Prop :=
  ∀ (i : Nat) (s : Shared) (p : PV) (v : Value) (Z : Zm) (σ : St) (Q : St → Prop) (R : Unit → Shared → Prop) (E : Value → Shared → Prop), Sp i s.heap → VR Z p v → fa p σ Q → R () s → wpAny (model prog w) A (letOwnedTupleGo t (.ref I) v) R E s
theorem lo_plain {A : Around} {t : Expr} {I : Addr} {Sp : Nat → Heap → Prop} {fa : PV → St → (St → Prop) → Prop} (h : ∀ i v, letOwnedTupleGo t i v = pure ()) : LoOk prog w A t I Sp fa :=
  fun _ _ _ v _ _ _ _ _ _ _ _ r => by rw [h]; exact wpAny_pure r
theorem lo_tup {A : Around} {elts : List Expr} {x1} {tp : Pos} {I : Addr} {Sp : Nat → Heap → Prop} {fa : PV → St → (St → Prop) → Prop} (hf : ∀ p σ Q, fa p σ Q → ∃ ps, p = .tup ps) (hsp : ∀ i h, Sp i h → ∃ l j, h.IsListIter I l j) : LoOk prog w A (.Tuple elts x1 tp) I Sp fa :=
  fun _ _ _ v _ _ _ _ _ sp vr f r => by
    obtain ⟨ps, rfl⟩ := hf _ _ _ f
    obtain ⟨T, rfl⟩ : ∃ T, v = .ref T := by cases vr; exact ⟨_, rfl⟩
    obtain ⟨l, j, hl⟩ := hsp _ _ sp
    exact wpAny_letOwnedTupleGo_listiter hl r
theorem for_core {A : Around} {Z Z₁ : Zm} {loc : Loc} {H H₁ : LH} {s s₁ s₂ : Shared} {xs : List PV} {I : Addr} {fp wr : List Addr} {P : Nat → Value → Prop} {St : Nat → Heap → Prop} {t : Expr} {b : List Stmt} {fa : PV → Mine.St → (Mine.St → Prop) → Prop} {fb : XT}
    {Q : Fl → Mine.St → Prop} {Q' : Flow → Shared → Prop} {E : Value → Shared → Prop}
    (rm : Rm n A) (S : Sat h₀ Z env loc H s.heap) (k₁ : Ke h₀ env loc Z H s Z₁ H₁ s₁) (frozen : ∀ b ∈ fp, b ≠ I → ∃ o, Z₁ b = some o) (Wk : Wk prog w A Z₁ xs I fp wr P St) (kp : Kp s₁ s₂) (hst : St 0 s₂.heap) (hI : s₁.heap.get? I = none)
    (hlive : ∀ i h, St i h → ∃ o, h.get? I = some o) (hwr : wr = [I]) (ha : AsOk h₀ prog w env t fa) (hb : XsOk h₀ prog w n env b fb) (hlo : LoOk prog w A t I St fa) (f₁ : forW fa fb xs ⟨loc, H₁⟩ Q)
    (q : ∀ fl p loc' Z' H' s', Sk h₀ env loc Z H s loc' Z' H' s' → FlR Z' p fl → Q p ⟨loc', H'⟩ → Q' fl s') :
    codeAny (model prog w) A (.forLoop t (.ref I) b [] env) (fun r s' => match r with | .ok f => Q' f s' | .error e => cameBackBy (model prog w) A env E e s') s₂ := by
  have hIs : s.heap.get? I = none := k₁.kp.none hI
  have k₂ := k₁.trans (Ke.keep k₁.sat kp)
  have hZ₁ : Z₁ I = none := by
    cases q1 : Z₁ I with
    | none => rfl
    | some o => have := k₁.sat.frz I o q1; rw [hI] at this; cases this
  have hH₁ : H₁ I = none := by
    cases q1 : H₁ I with
    | none => rfl
    | some l => obtain ⟨_, _, _, e, _⟩ := k₁.sat.obj I l q1; rw [hI] at e; cases e
  have iL : I ≠ env.locals := fun h => by
    obtain ⟨oL, eL⟩ := S.nsAt
    rw [← h, hIs] at eL; cases eL
  have iC : ∀ m, (m, I) ∉ env.cells := fun m hm => by
    obtain ⟨_, _, oc, ec, _⟩ := S.cellZ m I hm
    rw [hIs] at ec; cases ec
  have nI : ∀ b, b ≠ I → b ∉ wr := fun b hb hm => by rw [hwr] at hm; exact hb (List.mem_singleton.mp hm)
  refine codeAny_forLoop_any (fun k s' => ∃ i loc' Z' H', Sk h₀ env loc Z H s loc' Z' H' s' ∧ St i s'.heap ∧ Z' I = none ∧ H' I = none ∧ Zle Z₁ Z' ∧ i ≤ xs.length ∧ k = xs.length - i ∧ forW fa fb (xs.drop i) ⟨loc', H'⟩ Q) ?_ xs.length
    ⟨0, loc, Z₁, H₁, k₂.sk, hst, hZ₁, hH₁, Zle.refl _, Nat.zero_le _, rfl, f₁⟩
  rintro k s' ⟨i, loc', Z', H', K, hst', hZ', hH', hle, hi, rfl, f'⟩
  by_cases hlt : i < xs.length
  · refine Wk.walks.item i s' _ _ hlt hst' fun v h' tk hP hst₁ hk₁ => ?_
    obtain ⟨p, hp, vp⟩ := Wk.item i v hP
    have K₁ : Sk h₀ env loc Z H s loc' Z' H' { s' with heap := h', toks := tk } := K.walk S (fun b o hb e => hk₁ b o (nI b hb) e) hIs hZ' hH'
    have hd : xs.drop i = p :: xs.drop (i + 1) := by
      rw [List.drop_eq_getElem_cons hlt]
      congr 1
      have := List.getElem?_eq_getElem hlt
      rw [this] at hp; exact Option.some.inj hp
    rw [hd] at f'
    obtain ⟨oI, eI⟩ := hlive _ _ hst₁
    refine hlo (i + 1) _ _ _ _ _ _ _ _ hst₁ vp f' ?_
    refine ha A Z' loc' H' _ p v _ _ _ rm.hd K₁.sat (vp.mono hle) f' fun loc₂ Z₂ H₂ s₂' k₃ f₂ => ?_
    refine hb A Z₂ loc₂ H₂ s₂' _ _ _ rm k₃.sat f₂ fun fl p' loc₃ Z₃ H₃ s₃ k₄ vf f₃ => ?_
    have K₂ := k₃.trans k₄
    have K₃ := K₁.trans K₂
    have goOn : forW fa fb (xs.drop (i + 1)) ⟨loc₃, H₃⟩ Q → ∃ m, m < xs.length - i ∧ ∃ i loc' Z' H', Sk h₀ env loc Z H s loc' Z' H' s₃ ∧ St i s₃.heap ∧ Z' I = none ∧ H' I = none ∧ Zle Z₁ Z' ∧ i ≤ xs.length ∧ m = xs.length - i ∧ forW fa fb (xs.drop i) ⟨loc', H'⟩ Q := fun ff => by
      refine ⟨xs.length - (i + 1), by (first | lia | omega), i + 1, loc₃, Z₃, H₃, K₃, ?_, K₂.noZ eI hZ', K₂.noH eI hH', hle.trans K₂.fz.1, hlt, rfl, ff⟩
      refine Wk.walks.frame (i + 1) h' s₃.heap hst₁ fun b hb' o e => ?_
      by_cases hbI : b = I
      · subst hbI
        refine K₂.frm b o e iL iC fun ys hy => ?_
        rw [hH'] at hy; cases hy
      · obtain ⟨o', hz⟩ := frozen b hb' hbI
        have e1 := K₁.sat.frz b o' (hle b o' hz)
        have e2 : h'.get? b = some o' := e1
        have e3 : o' = o := Option.some.inj (e2.symm.trans e)
        exact e3 ▸ K₂.sat.frz b o' (K₂.fz.1 b o' (hle b o' hz))
    cases vf with
    | next => exact goOn f₃
    | cont => exact goOn f₃
    | brk => exact q _ _ _ _ _ _ K₃ .next f₃
    | ret v => exact q _ _ _ _ _ _ K₃ (.ret v) f₃
  · have hin : i = xs.length := by (first | lia | omega)
    subst hin
    refine Wk.walks.done s' _ _ hst' fun h' tk hk₁ => wpAny_execs_nil ?_
    have K₁ : Sk h₀ env loc Z H s loc' Z' H' { s' with heap := h', toks := tk } := K.walk S (fun b o hb e => hk₁ b o (nI b hb) e) hIs hZ' hH'
    rw [List.drop_length] at f'
    exact q _ _ _ _ _ _ K₁ .next f'
theorem st_for {t it : Expr} {b : List Stmt} {pos : Pos} {fi : ET} {fa : PV → St → (St → Prop) → Prop} {fb : XT} (hi : EvOk h₀ prog w n env it fi) (ha : AsOk h₀ prog w env t fa) (hb : XsOk h₀ prog w n env b fb)
    (hs : ∀ x, foldedSetIterable it env x = pure x := by intro _; rfl) (ht : ∀ i v, letOwnedTupleGo t i v = pure () := by intro _ _; rfl) :
    ExOk h₀ prog w n env (.For t it b [] pos) (fun σ Q => fi σ fun a H₁ => ∃ xs, iterOk a ∧ iterOf H₁ a = some xs ∧ forW fa fb xs ⟨σ.loc, H₁⟩ Q) := by
  intro A Z loc H s Q Q' E rm S f q
  refine wpAny_For (hi A Z loc H s _ _ _ rm S f fun x a Z₁ H₁ s₁ k₁ va f₁ => ?_) hs
  obtain ⟨xs, hok, hit, f₁⟩ := f₁
  refine iter_ok rm k₁.sat va hit fun I fp wr P St s₂ Wk kp hst hI hlive hwr hfp hfl => ?_
  refine for_core rm S k₁ (fun b hb hne => ?_) Wk kp hst hI hlive hwr ha hb (lo_plain ht) f₁ q
  rcases hfp b hb with h | h
  · exact absurd h hne
  · cases va with
    | tup z r => cases h; exact ⟨_, z⟩
    | lst z r => cases h; exact ⟨_, z⟩
    | rng z => cases h; exact ⟨_, z⟩
    | ref a => exact hok.elim
    | raw v => cases hit
    | obj z _ _ => cases hit
    | _ => cases h
end
end Mine
end
section
namespace Mine
theorem bindL_mem {kindOf : Str → Option NameKind} {x : Str} {v : Value} (hk : kindOf x = some .local) : ∀ {binds : List (Str × Value)} {m : Str → Option Value}, (binds.map (·.1)).Nodup → ((x, v) ∈ binds ∨ (m x = some v ∧ x ∉ binds.map (·.1))) → bindL kindOf binds m x = some v
  | [], m, _, h => by
    rcases h with h | h
    · cases h
    · exact h.1
  | (n, u) :: r, m, nd, h => by
    simp only [List.map_cons, List.nodup_cons] at nd
    unfold bindL
    refine bindL_mem hk nd.2 ?_
    rcases h with h | ⟨h1, h2⟩
    · rcases List.mem_cons.mp h with e | h
      · cases e
        refine .inr ⟨?_, nd.1⟩
        rw [if_pos hk]; simp
      · exact .inl h
    · simp only [List.map_cons, List.mem_cons, not_or] at h2
      refine .inr ⟨?_, h2.2⟩
      split
      · simp only [if_neg h2.1]; exact h1
      · exact h1
theorem bindC_mem {kindOf : Str → Option NameKind} {x : Str} {v : Value} (hk : kindOf x ≠ some .local) : ∀ {binds : List (Str × Value)} {m : Str → Option Value}, (binds.map (·.1)).Nodup → ((x, v) ∈ binds ∨ (m x = some v ∧ x ∉ binds.map (·.1))) → bindC kindOf binds m x = some v
  | [], m, _, h => by
    rcases h with h | h
    · cases h
    · exact h.1
  | (n, u) :: r, m, nd, h => by
    simp only [List.map_cons, List.nodup_cons] at nd
    unfold bindC
    refine bindC_mem hk nd.2 ?_
    rcases h with h | ⟨h1, h2⟩
    · rcases List.mem_cons.mp h with e | h
      · cases e
        refine .inr ⟨?_, nd.1⟩
        rw [if_neg hk]; simp
      · exact .inl h
    · simp only [List.map_cons, List.mem_cons, not_or] at h2
      refine .inr ⟨?_, h2.2⟩
      split
      · exact h1
      · simp only [if_neg h2.1]; exact h1
/-- the parameters' names and their values -/
noncomputable def argLoc : List String → List PV → Loc
  | x :: xs, p :: ps => fun y => if y = x then some p else argLoc xs ps y
  | _, _ => fun _ => none
theorem argLoc_some : ∀ {names : List String} {ps : List PV} {vs : List Value} {Z : Zm} {y : String} {p : PV}, VRs Z ps vs → argLoc names ps y = some p → ∃ v, (Str.ofString y, v) ∈ (names.map Str.ofString).zip vs ∧ VR Z p v
  | [], _, _, _, _, _, _, h => by cases h
  | _ :: _, [], _, _, _, _, _, h => by cases h
  | x :: xs, q :: ps, _, Z, y, p, .cons hv hr, h => by
    unfold argLoc at h
    by_cases e : y = x
    · rw [if_pos e] at h; cases h
      exact ⟨_, by rw [e]; exact List.mem_cons_self, hv⟩
    · rw [if_neg e] at h
      obtain ⟨v, hm, hv'⟩ := argLoc_some hr h
      exact ⟨v, List.mem_cons_of_mem _ hm, hv'⟩
theorem zip_fst_sublist {α β : Type} : ∀ (xs : List α) (vs : List β), List.Sublist ((xs.zip vs).map (·.1)) xs
  | [], _ => by simp
  | x :: xs, [] => by simp
  | x :: xs, v :: vs => by simp only [List.zip_cons_cons, List.map_cons]; exact (zip_fst_sublist xs vs).cons₂ x
section
variable {K : Frag} {h₀ : Heap} {prog : Program} {w : World} {n : Nat} {env : Env}
/-- a def's body is entered -/
theorem enter_ok {A : Around} {Z : Zm} {loc : Loc} {H : LH} {s : Shared} {R : Result → Shared → Prop} {name qual : Str} {params : Arguments} {body : List Stmt} {scope : Scope} {dV kV doc pm cdv ct oc : Value} {an od : Option Addr} {osl : Array (Option Value)} {f : Addr}
    {names : List String} {ps : List PV} {vs : List Value} (H₀ : LH)
    (G : Gr K h₀) (ho : K.lookup f = some ⟨oc, od, .func (fnOf name qual params body scope dV kV doc pm an cdv ct), osl⟩) (hcd : codeIn K cdv qual = true)
    (hco : scope.isCoroutine = false) (hgen : scope.isGenerator = false) (hk : scope.kind = .function)
    (hbind : BindsTo s (fnOf name qual params body scope dV kV doc pm an cdv ct) ⟨vs, []⟩ ((names.map Str.ofString).zip vs))
    (hkind : (names.all fun y => scope.names.lookup (Str.ofString y) == some .local || scope.names.lookup (Str.ofString y) == some .cell) = true) (hnn : names.Nodup) (hnd : ((cellsFrom 0 scope.names []).map (·.1)).Nodup)
    (hd : A.depth < recursionLimit) (S : Sat h₀ Z env loc H s.heap) (hH₀ : ∀ a l, H₀ a = some l → ∃ l', H a = some l' ∧ l.xs = l'.xs) (hv : VRs Z ps vs)
    (h : ∀ L' s', Sat h₀ Z (envOfC qual scope L' f cdv) (argLoc names ps) H₀ s'.heap → Kp s s' → s.heap.get? L' = none → (∀ n c, (n, c) ∈ (envOfC qual scope L' f cdv).cells → s.heap.get? c = none) →
      wpAny (model prog w) (A.deeper (envOfC qual scope L' f cdv)) (execs body (envOfC qual scope L' f cdv)) (fun fl s' => R (.ok (.ret (match fl with | .ret v => v | _ => .none))) s')
        (fun e s' => wpAny (model prog w) (A.deeper (envOfC qual scope L' f cdv)) (leaving (envOfC qual scope L' f cdv) e) (fun _ s'' => R (.error e) s'') (fun e' s'' => R (.error e') s'') s') s') :
    codeAny (model prog w) A (.call (.ref f) ⟨vs, []⟩) R s := by
  have X : K.In s.heap := G.X.keeps S.keep
  refine codeAny_call_function hd (X _ _ ho) rfl hco hgen rfl (codeRec_of X hcd) (hbind _ _ _ _ ?_)
  have hkinds : ∀ y, y ∈ (names.map Str.ofString).zip vs → ∃ x ∈ names, y.1 = Str.ofString x := fun y hy => by
    have := (List.of_mem_zip hy).1
    obtain ⟨x, hx, e⟩ := List.mem_map.mp this
    exact ⟨x, hx, e.symm⟩
  have kd : ((names.map Str.ofString).zip vs).all (fun y => scope.names.lookup y.1 == some .local || scope.names.lookup y.1 == some .cell) = true := by
    refine List.all_eq_true.mpr fun y hy => ?_
    obtain ⟨x, hx, e⟩ := hkinds y hy
    rw [e]; exact List.all_eq_true.mp hkind x hx
  refine wpAny_newFunctionEnv_cells hk (kindsX kd _) fun env' he s' x => ?_
  subst he
  refine ⟨(G.nl.keeps S.keep).keeps x.toInCall.keep, codeAny_func ?_⟩
  have hkeep := x.toInCall.keep
  have nd : (((names.map Str.ofString).zip vs).map (·.1)).Nodup := by
    refine List.Nodup.sublist (zip_fst_sublist _ _) ?_
    exact hnn.map Str.ofString fun a b hab h => hab (ofString_inj h)
  refine h s.heap.objs.size s' ⟨S.base, fun a o e => hkeep a o (S.frz a o e), ?_, ?_, ?_, hk, ⟨_, x.toInCall.ns, ?_⟩, ?_⟩ ?_ (get_size _) ?_
  · cases q : Z s.heap.objs.size with
    | none => exact q
    | some o => have := S.frz _ o q; rw [get_size] at this; cases this
  · intro m c hm
    have hab : s.heap.objs.size < c := x.above m c hm
    refine ⟨?_, ?_⟩
    · cases q : Z c with
      | none => rfl
      | some o => have := Heap.lt_size (S.frz c o q); exact absurd this (Nat.lt_asymm hab)
    · exact ⟨_, x.cell m c (lookup_of_mem_nodup (cellsFrom_names scope.names 0 (s.heap.objs.size + 1) [] [] rfl ▸ hnd) hm)⟩
  · show (List.map (·.2) (cellsFrom (s.heap.objs.size + 1) scope.names [])).Nodup
    exact List.pairwise_map.mpr x.apart
  · intro y p e
    obtain ⟨v, hm, vr⟩ := argLoc_some hv e
    have hy := List.all_eq_true.mp kd _ hm
    by_cases hl : (envOfC qual scope s.heap.objs.size f cdv).kindOf (Str.ofString y) = some .local
    · exact .loc v hl (bindL_mem hl nd (.inl hm)) vr
    · have hc : (envOfC qual scope s.heap.objs.size f cdv).kindOf (Str.ofString y) = some .cell := by
        rcases Bool.or_eq_true_iff.mp hy with h | h
        · exact absurd (show scope.names.lookup (Str.ofString y) = some .local by simpa using h) hl
        · exact (show scope.names.lookup (Str.ofString y) = some .cell by simpa using h)
      obtain ⟨c, hc'⟩ := Option.isSome_iff_exists.mp (((kindsX kd (s.heap.objs.size + 1) _ hm).resolve_left fun h => hl h).2)
      have hcell := x.cell _ _ hc'
      have e : bindC (envOfC qual scope s.heap.objs.size f cdv).kindOf ((names.map Str.ofString).zip vs) (fun _ => none) (Str.ofString y) = some v := bindC_mem hl nd (.inl hm)
      have hcell' : s'.heap.IsCell c (bindC (envOfC qual scope s.heap.objs.size f cdv).kindOf ((names.map Str.ofString).zip vs) (fun _ => none) (Str.ofString y)) := hcell
      rw [e] at hcell'
      exact .cell c v (.inl hc) hc' hcell' vr
  · intro a l e
    obtain ⟨l', e', hx⟩ := hH₀ a l e
    obtain ⟨z, ws, k, ho', r⟩ := S.obj a l' e'
    exact ⟨z, ws, k, hkeep _ _ ho', by rw [hx]; exact r⟩
  · obtain ⟨h', tk, e, k⟩ := x.done
    exact ⟨h', tk, e, k⟩
  · intro m c hm
    have hab : s.heap.objs.size < c := x.above m c hm
    cases q : s.heap.get? c with
    | none => rfl
    | some o => exact absurd (Heap.lt_size q) (Nat.lt_asymm hab)
end
end Mine
end
section
namespace Mine
noncomputable def flowVal : Flow → Value
  | .ret v => v
  | _ => .none
theorem FlR.val {Z : Zm} : ∀ {p : Fl} {fl : Flow}, FlR Z p fl → VR Z (match p with | .ret p => p | _ => .none) (flowVal fl)
  | _, _, .ret v => v
  | _, _, .next => .none
  | _, _, .brk => .none
  | _, _, .cont => .none
noncomputable def flVal : Fl → PV
  | .ret p => p
  | _ => .none
/-- what a call hands back: the value; a new list of the callee's may be had as a value -/
noncomputable def retW (p : PV) (H H' : LH) (Q : PV → LH → Prop) : Prop := Q p H ∨ ∃ a xs, p = .ref a ∧ H' a = some ⟨true, xs⟩ ∧ Q (.lst xs) H
noncomputable def callW (names : List String) (Fb : XT) (ps : List PV) (H : LH) (Q : PV → LH → Prop) : Prop := Fb ⟨argLoc names ps, H.ro⟩ fun fl σ' => retW (flVal fl) H σ'.H Q
section
variable {K : Frag} {h₀ : Heap} {prog : Program} {w : World} {n : Nat} {env : Env}
theorem Sat.of_callee {Z Z' : Zm} {env' : Env} {loc loc' loc'' : Loc} {H H₀ H' : LH} {s s₁ s₂ : Shared} (S : Sat h₀ Z env loc H s.heap) (hkp : Kp s s₁) (Kc : Sk h₀ env' loc' Z H₀ s₁ loc'' Z' H' s₂)
    (hall : ∀ b o, s.heap.get? b = some o → s₂.heap.get? b = some o) : Sat h₀ Z' env loc H s₂.heap := by
  refine (S.keeps hall).freeze Kc.fz.1 Kc.sat.frz ?_ ?_ ?_
  · obtain ⟨o, e⟩ := S.nsAt
    exact Kc.noZ (hkp.get e) S.nsZ
  · intro m c hm
    obtain ⟨z, _, o, e, _⟩ := S.cellZ m c hm
    exact Kc.noZ (hkp.get e) z
  · intro a l e
    obtain ⟨z, _, _, eo, _⟩ := S.obj a l e
    exact Kc.noZ (hkp.get eo) z
theorem fn_ok {name qual : Str} {params : Arguments} {body : List Stmt} {scope : Scope} {dV kV doc pm cdv ct oc : Value} {an od : Option Addr} {osl : Array (Option Value)} {f : Addr} {names : List String} {Fb : XT}
    (G : Gr K h₀) (ho : K.lookup f = some ⟨oc, od, .func (fnOf name qual params body scope dV kV doc pm an cdv ct), osl⟩) (hcd : codeIn K cdv qual = true)
    (hco : scope.isCoroutine = false) (hgen : scope.isGenerator = false) (hk : scope.kind = .function)
    (hbind : ∀ s vs, vs.length = names.length → BindsTo s (fnOf name qual params body scope dV kV doc pm an cdv ct) ⟨vs, []⟩ ((names.map Str.ofString).zip vs))
    (hkind : (names.all fun y => scope.names.lookup (Str.ofString y) == some .local || scope.names.lookup (Str.ofString y) == some .cell) = true) (hnn : names.Nodup) (hnd : ((cellsFrom 0 scope.names []).map (·.1)).Nodup)
    (hb : ∀ L', XsOk h₀ prog w n (envOfC qual scope L' f cdv) body Fb) :
    ∀ loc Z H s ps vs, Sat h₀ Z env loc H s.heap → VRs Z ps vs → OpOk h₀ prog w (n + 1) env loc Z H s (call (.ref f) vs) (fun Q => ps.length = names.length ∧ callW names Fb ps H Q) := by
  intro loc Z H s ps vs S hv A Q Q' E rm f q
  obtain ⟨hlen, f⟩ := f
  refine wpAny_call (enter_ok H.ro G ho hcd hco hgen hk (hbind s vs (by rw [hv.length]; exact hlen)) hkind hnn hnd (by have := rm.dp; (first | lia | omega)) S (fun a l e => ?_) hv fun L' s₁ S₁ kp hL hC => ?_)
  · unfold LH.ro at e
    cases q1 : H a with
    | none => rw [q1] at e; cases e
    | some l' => rw [q1] at e; cases e; exact ⟨l', rfl, rfl⟩
  · refine hb L' (A.deeper _) Z (argLoc names ps) H.ro s₁ _ _ _ (rm.deeper _) S₁ f fun fl p loc' Z' H' s₂ Kc vf f' => ?_
    have hall : ∀ b o, s.heap.get? b = some o → s₂.heap.get? b = some o := fun b o e => by
      refine Kc.frm b o (kp.get e) ?_ ?_ ?_
      · intro h; rw [show (envOfC qual scope L' _ cdv).locals = L' from rfl] at h; rw [h, hL] at e; cases e
      · intro m hm; rw [hC m b hm] at e; cases e
      · intro xs hx
        unfold LH.ro at hx
        cases q1 : H b with
        | none => rw [q1] at hx; cases hx
        | some l' => rw [q1] at hx; cases hx
    have hsh : Kp s s₂ := by
      obtain ⟨h', tk, e, _⟩ := kp
      obtain ⟨h'', tk', e'⟩ := Kc.sh
      subst e
      exact ⟨h'', tk', e', fun b o eb => by have := hall b o eb; rw [e'] at this; exact this⟩
    have S₂ := S.of_callee kp Kc hall
    have hfz : Fresh s Z Z' := ⟨Kc.fz.1, fun a h1 h2 => by
      have := Kc.fz.2 a h1 h2
      exact kp.none this⟩
    have hfl : VR Z' (flVal p) (flowVal fl) := vf.val
    change Q' (flowVal fl) s₂
    rcases f' with f' | ⟨a, xs, hp, ha, f'⟩
    · exact q _ _ _ _ _ ⟨S₂, hsh, hfz, FreshH.refl s H⟩ hfl f'
    · rw [hp] at hfl
      obtain ⟨za, ws, k, ho', r⟩ := Kc.sat.obj a _ ha
      have hfresh : s.heap.get? a = none := by
        rcases Kc.fh a _ ha with ⟨l, hl, hm⟩ | hn
        · unfold LH.ro at hl
          cases q1 : H a with
          | none => rw [q1] at hl; cases hl
          | some l' => rw [q1] at hl; cases hl; cases hm rfl
        · exact kp.none hn
      have hz : Zle Z' (Z'.set a { cls := .type "list", data := .seq ws.toArray k }) := Zm.le_set _ za
      have hfl' : flowVal fl = .ref a := by
        generalize flowVal fl = x at hfl
        cases hfl; rfl
      have nea : ∀ b o, s.heap.get? b = some o → b ≠ a := fun b o e h => by rw [h, hfresh] at e; cases e
      have S₃ : Sat h₀ (Z'.set a { cls := .type "list", data := .seq ws.toArray k }) env loc H s₂.heap := by
        refine S₂.freeze hz ?_ ?_ ?_ ?_
        · intro b o e
          unfold Zm.set at e
          by_cases hb' : b = a
          · rw [if_pos hb'] at e; cases e; rw [hb']; exact ho'
          · rw [if_neg hb'] at e; exact S₂.frz b o e
        · obtain ⟨o, e⟩ := S.nsAt
          unfold Zm.set; rw [if_neg (nea _ _ e)]; exact S₂.nsZ
        · intro m c hm
          obtain ⟨_, _, o, e, _⟩ := S.cellZ m c hm
          unfold Zm.set; rw [if_neg (nea _ _ e)]; exact (S₂.cellZ m c hm).1
        · intro b l e
          obtain ⟨_, _, _, eo, _⟩ := S.obj b l e
          unfold Zm.set; rw [if_neg (nea _ _ eo)]; exact (S₂.obj b l e).1
      rw [hfl']
      refine q _ _ _ _ _ ⟨S₃, hsh, ⟨Kc.fz.1.trans hz, fun b h1 h2 => ?_⟩, FreshH.refl s H⟩ (.lst (Zm.set_self _ _ _) (r.mono hz)) f'
      unfold Zm.set at h2
      by_cases hb' : b = a
      · rw [hb']; exact hfresh
      · rw [if_neg hb'] at h2; exact hfz.2 b h1 h2
end
end Mine
end
section
namespace Mine
section
variable {K : Frag} {h₀ : Heap} {prog : Program} {w : World} {n : Nat} {env : Env}
/-- the same plain state, another frame: what a pure expression of another frame's leaves -/
theorem Sat.other {env' : Env} {loc loc' : Loc} {Z Z' : Zm} {H H' : LH} {s s' : Shared} (S : Sat h₀ Z env loc H s.heap) (k : Ke h₀ env' loc' Z H s Z' H' s') : Sat h₀ Z' env loc H' s'.heap := by
  have fz : ∀ {a : Addr} {o : Obj}, s.heap.get? a = some o → Z a = none → Z' a = none := fun {a o} e hz => by
    cases q : Z' a with
    | none => rfl
    | some o' => have := k.fz.2 a hz (by rw [q]; exact Option.some_ne_none _); rw [e] at this; cases this
  refine ⟨fun a o e => k.fz.1 a o (S.base a o e), k.sat.frz, ?_, ?_, S.cellN, S.kind, ?_, k.sat.obj⟩
  · obtain ⟨o, e⟩ := S.nsAt
    exact fz e S.nsZ
  · intro m c hm
    obtain ⟨z, w', o, e, d⟩ := S.cellZ m c hm
    exact ⟨fz e z, w', o, k.kp.get e, d⟩
  · obtain ⟨m, a, b⟩ := S.ns
    exact ⟨m, a.at' fun o e => k.kp.get e, fun x p e => (b x p e).keeps k.fz.1 fun _ _ e => k.kp.get e⟩
/-- an assignment that turns the frame's own names alone -/
structure Sa (h₀ : Heap) (env : Env) (loc' : Loc) (Z : Zm) (H : LH) (s s' : Shared) : Prop where
  sat : Sat h₀ Z env loc' H s'.heap
  sh : ∃ h' tk, s' = { s with heap := h', toks := tk }
  kp : ∀ b o, b ≠ env.locals → s.heap.get? b = some o → s'.heap.get? b = some o
noncomputable def AcOk (h₀ : Heap) (prog : Program) (w : World) (env : Env) (t : Expr) (fa : PV → St → (St → Prop) → Prop) : Prop :=
  ∀ (A : Around) (Z : Zm) (loc : Loc) (H : LH) (s : Shared) (p : PV) (v : Value) (Q : St → Prop) (Q' : Unit → Shared → Prop) (E : Value → Shared → Prop),
    A.handled = none → Sat h₀ Z env loc H s.heap → VR Z p v → fa p ⟨loc, H⟩ Q → (∀ loc' s', Sa h₀ env loc' Z H s s' → Q ⟨loc', H⟩ → Q' () s') → wpAny (model prog w) A (assign t env v) Q' E s
theorem Sa.trans {loc₁ loc₂ : Loc} {Z : Zm} {H : LH} {s s₁ s₂ : Shared} (a : Sa h₀ env loc₁ Z H s s₁) (b : Sa h₀ env loc₂ Z H s₁ s₂) : Sa h₀ env loc₂ Z H s s₂ := by
  obtain ⟨sa, ⟨h, t, e⟩, ka⟩ := a
  obtain ⟨sb, ⟨h', t', e'⟩, kb⟩ := b
  subst e
  exact ⟨sb, ⟨h', t', e'⟩, fun b o hb eb => kb b o hb (ka b o hb eb)⟩
theorem storeL {A : Around} {Z : Zm} {loc : Loc} {H : LH} {s : Shared} {x : String} {p : PV} {v : Value} {Q' : Unit → Shared → Prop} {E : Value → Shared → Prop} (S : Sat h₀ Z env loc H s.heap) (hv : VR Z p v)
    (hk : env.kindOf (Str.ofString x) = some .local) (q : ∀ s', Sa h₀ env (loc.set x p) Z H s s' → Q' () s') : wpAny (model prog w) A (storeName env (Str.ofString x) v) Q' E s := by
  obtain ⟨m, hm, hl⟩ := S.ns
  have neZ : ∀ {a : Addr} {o : Obj}, Z a = some o → a ≠ env.locals := fun {a o} e h => by rw [h, S.nsZ] at e; cases e
  have neC : ∀ {n : Str} {c : Addr}, (n, c) ∈ env.cells → c ≠ env.locals := fun {n c} hc h => by
    obtain ⟨_, w, o, e, d⟩ := S.cellZ n c hc
    obtain ⟨o', es, ep, e', d', _⟩ := hm
    rw [h, e'] at e; cases e; rw [d'] at d; cases d
  have neH : ∀ {a : Addr} {l : LO}, H a = some l → a ≠ env.locals := fun {a l} e h => by
    obtain ⟨_, vs, k, e', _⟩ := S.obj a l e
    obtain ⟨o', es, ep, e'', d', _⟩ := hm
    rw [h, e''] at e'; cases e'; cases d'
  refine wpAny_storeName_local hk hm (fun h' hn hs => q _ ⟨⟨S.base, ?_, S.nsZ, ?_, S.cellN, S.kind, ⟨_, hn, ?_⟩, ?_⟩, ⟨h', _, rfl⟩, ?_⟩) (by rw [S.kind]; rfl)
  · exact fun a o e => (hs.2 a (neZ e)).trans (S.frz a o e)
  · intro n c hm'
    obtain ⟨z, w', o, e, d⟩ := S.cellZ n c hm'
    exact ⟨z, w', o, (hs.2 c (neC hm')).trans e, d⟩
  · intro y p' e
    by_cases hy : y = x
    · subst hy
      rw [Loc.set_self] at e; cases e
      exact .loc v hk (by simp) hv
    · rw [Loc.set_ne _ _ hy] at e
      cases hl y p' e with
      | loc v' a b c => exact .loc v' a (by rw [if_neg fun h => hy (ofString_inj h)]; exact b) c
      | cell c v' a b d g => exact .cell c v' a b (d.sameBut hs (neC (mem_of_lookup b))) g
  · intro a l e
    obtain ⟨z, vs, k, e', r⟩ := S.obj a l e
    exact ⟨z, vs, k, (hs.2 a (neH e)).trans e', r⟩
  · exact fun b o h1 e => (hs.2 b h1).trans e
theorem ac_name {x : String} {pos : Pos} (hk : env.kindOf (Str.ofString x) = some .local) : AcOk h₀ prog w env (.Name (Str.ofString x) pos) (fun p σ Q => Q ⟨σ.loc.set x p, σ.H⟩) :=
  fun A Z loc H s p v Q Q' E hh S hv f q => wpAny_assign_Name (storeL S hv hk fun s' k => q _ _ k f)
/-- the tests of a comprehension -/
noncomputable def TsOk (h₀ : Heap) (prog : Program) (w : World) (n : Nat) (env : Env) (ifs : List Expr) (F : BT) : Prop :=
  ∀ (A : Around) (Z : Zm) (loc : Loc) (H : LH) (s : Shared) (Q : Bool → LH → Prop) (Q' : Bool → Shared → Prop) (E : Value → Shared → Prop),
    Rm n A → Sat h₀ Z env loc H s.heap → F ⟨loc, H⟩ Q →
    (∀ b Z' H' s', Ke h₀ env loc Z H s Z' H' s' → Q b H' → Q' b s') →
    wpAny (model prog w) A (forIn ifs true fun c r => if r = true then do let ok ← isTrue c env (eval c env); pure (ForInStep.yield ok) else pure (ForInStep.yield r)) Q' E s
theorem ts_nil : TsOk h₀ prog w n env [] (fun σ Q => Q true σ.H) := fun _ _ _ _ _ _ _ _ _ S f q => wpAny_tests_nil (q _ _ _ _ (Ke.refl S) f)
/-- a comprehension over the items -/
noncomputable def compW (fa : PV → St → (St → Prop) → Prop) (ft : BT) (fe : ET) (cap : Loc) : List PV → List PV → LH → (List PV → LH → Prop) → Prop
  | [], acc, H, Q => Q acc H
  | p :: r, acc, H, Q => fa p ⟨cap, H⟩ fun σ => ft σ fun c H₁ => if c then fe ⟨σ.loc, H₁⟩ fun y H₂ => compW fa ft fe cap r (acc ++ [y]) H₂ Q else compW fa ft fe cap r acc H₁ Q
/-- what the block of a comprehension sees of its frame -/
structure Caps (env : Env) (scope : Scope) (cl : List (Str × Addr)) (caps : List String) : Prop where
  sub : ∀ p ∈ cl, p ∈ env.cells
  nd : (cl.map (·.2)).Nodup
  kind : scope.kind = .function
  see : ∀ C, ∀ y ∈ caps, ((compEnvC scope cl C env).kindOf (Str.ofString y) = some .cell ∨ (compEnvC scope cl C env).kindOf (Str.ofString y) = some .free) ∧ cl.lookup (Str.ofString y) = env.cells.lookup (Str.ofString y) ∧ env.kindOf (Str.ofString y) ≠ some .local
noncomputable def capLoc (caps : List String) (loc : Loc) : Loc := fun y => if y ∈ caps then loc y else none
theorem Sat.block {Z : Zm} {loc : Loc} {H : LH} {h : Heap} {scope : Scope} {cl : List (Str × Addr)} {caps : List String} {C : Addr} {m : Str → Option Value} (S : Sat h₀ Z env loc H h) (cp : Caps env scope cl caps) (hn : h.Ns C m) (hZ : Z C = none) :
    Sat h₀ Z (compEnvC scope cl C env) (capLoc caps loc) H h := by
  refine ⟨S.base, S.frz, hZ, fun m c hm => S.cellZ m c (cp.sub _ hm), cp.nd, cp.kind, ⟨m, hn, fun y p e => ?_⟩, S.obj⟩
  unfold capLoc at e
  split at e
  · rename_i hy
    obtain ⟨h1, h2, h3⟩ := cp.see C y hy
    obtain ⟨m', hm', hl⟩ := S.ns
    cases hl y p e with
    | loc v a b c => exact absurd a h3
    | cell c v a b d g => exact .cell c v h1 (by show cl.lookup _ = _; rw [h2]; exact b) d g
  · cases e
end
end Mine
end
section
namespace Mine
section
variable {K : Frag} {h₀ : Heap} {prog : Program} {w : World} {n : Nat} {env : Env}
/-- as EvOk, in heaps that bear all that g bears -/
noncomputable def EvAt (g : Heap) (h₀ : Heap) (prog : Program) (w : World) (n : Nat) (env : Env) (e : Expr) (F : ET) : Prop :=
  ∀ (A : Around) (Z : Zm) (loc : Loc) (H : LH) (s : Shared) (Q : PV → LH → Prop) (Q' : Value → Shared → Prop) (E : Value → Shared → Prop),
    Rm n A → (∀ b o, g.get? b = some o → s.heap.get? b = some o) → Sat h₀ Z env loc H s.heap → F ⟨loc, H⟩ Q →
    (∀ v p Z' H' s', Ke h₀ env loc Z H s Z' H' s' → VR Z' p v → Q p H' → Q' v s') → wpAny (model prog w) A (eval e env) Q' E s
theorem EvOk.at {g : Heap} {e : Expr} {F : ET} (h : EvOk h₀ prog w n env e F) : EvAt g h₀ prog w n env e F := fun A Z loc H s Q Q' E rm _ S f q => h A Z loc H s Q Q' E rm S f q
/-- what is known while a comprehension runs: I the walker, D the list, C the block's names -/
structure Cs (h₀ : Heap) (env : Env) (loc : Loc) (Z : Zm) (H : LH) (s : Shared) (I D C : Addr) (Z' : Zm) (H' : LH) (ps : List PV) (s' : Shared) : Prop where
  sat : Sat h₀ Z' env loc H' s'.heap
  kp : Kp s s'
  fz : Fresh s Z Z'
  fh : FreshH s H H'
  lst : ∃ ys k, s'.heap.get? D = some { cls := .type "list", data := .seq (List.toArray ys) k } ∧ VRs Z' ps ys
  ns : ∃ m, s'.heap.Ns C m
  i0 : s.heap.get? I = none
  d0 : s.heap.get? D = none
  c0 : s.heap.get? C = none
  di : D ≠ I
  ci : C ≠ I
  cd : C ≠ D
  zi : Z' I = none
  zd : Z' D = none
  zc : Z' C = none
  hi : H' I = none
  hd : H' D = none
  hc : H' C = none
  li : ∃ o, s'.heap.get? I = some o
  s0 : Sat h₀ Z env loc H s.heap
section
variable {loc : Loc} {Z Z' : Zm} {H H' : LH} {s s' : Shared} {I D C : Addr} {ps : List PV}
theorem Cs.dAt (c : Cs h₀ env loc Z H s I D C Z' H' ps s') : ∃ o, s'.heap.get? D = some o := let ⟨_, _, e, _⟩ := c.lst; ⟨_, e⟩
theorem Cs.cAt (c : Cs h₀ env loc Z H s I D C Z' H' ps s') : ∃ o, s'.heap.get? C = some o := let ⟨_, o, _, _, e, _⟩ := c.ns; ⟨o, e⟩
/-- all is kept but one of the three -/
theorem Cs.turn {B : Addr} {h' : Heap} {tk : Nat} {ps' : List PV} (c : Cs h₀ env loc Z H s I D C Z' H' ps s') (hB : B = I ∨ B = D ∨ B = C) (hk : ∀ b o, b ≠ B → s'.heap.get? b = some o → h'.get? b = some o)
    (hl : ∃ ys k, h'.get? D = some { cls := .type "list", data := .seq (List.toArray ys) k } ∧ VRs Z' ps' ys) (hn : ∃ m, h'.Ns C m) (hi : ∃ o, h'.get? I = some o) : Cs h₀ env loc Z H s I D C Z' H' ps' { s' with heap := h', toks := tk } := by
  have b0 : s.heap.get? B = none := by rcases hB with h | h | h <;> rw [h] <;> first | exact c.i0 | exact c.d0 | exact c.c0
  have bz : Z' B = none := by rcases hB with h | h | h <;> rw [h] <;> first | exact c.zi | exact c.zd | exact c.zc
  have bh : H' B = none := by rcases hB with h | h | h <;> rw [h] <;> first | exact c.hi | exact c.hd | exact c.hc
  obtain ⟨hh, tt, rfl, kk⟩ := c.kp
  have ne0 : ∀ b o, s.heap.get? b = some o → b ≠ B := fun b o e h => by rw [h, b0] at e; cases e
  have keep0 : ∀ b o, s.heap.get? b = some o → h'.get? b = some o := fun b o e => hk b o (ne0 b o e) (kk b o e)
  have S' := c.sat
  -- the frame and its cells stood before
  have base : Sat h₀ Z' env loc H' h' := by
    refine ⟨S'.base, fun a o e => hk a o (fun h => by rw [h, bz] at e; cases e) (S'.frz a o e), S'.nsZ, ?_, S'.cellN, S'.kind, ?_, fun a l e => ?_⟩
    · intro m x hm
      obtain ⟨z, w', o, e, d⟩ := S'.cellZ m x hm
      obtain ⟨_, _, o0, e0, _⟩ := c.s0.cellZ m x hm
      exact ⟨z, w', o, hk x o (ne0 x o0 e0) e, d⟩
    · obtain ⟨m, hm, hl⟩ := S'.ns
      obtain ⟨oL, eL⟩ := c.s0.nsAt
      refine ⟨m, hm.at' fun o e => hk _ o (ne0 _ oL eL) e, fun y p e => ?_⟩
      cases hl y p e with
      | loc v a b c => exact .loc v a b c
      | cell x v a b d g =>
        obtain ⟨o, eo, d'⟩ := d
        obtain ⟨_, _, o0, e0, _⟩ := c.s0.cellZ _ x (mem_of_lookup b)
        exact .cell x v a b ⟨o, hk x o (ne0 x o0 e0) eo, d'⟩ g
    · obtain ⟨z, vs, k, e', r⟩ := S'.obj a l e
      exact ⟨z, vs, k, hk a _ (fun h => by rw [h, bh] at e; cases e) e', r⟩
  exact ⟨base, ⟨h', tk, rfl, keep0⟩, c.fz, c.fh, hl, hn, c.i0, c.d0, c.c0, c.di, c.ci, c.cd, c.zi, c.zd, c.zc, c.hi, c.hd, c.hc, hi, c.s0⟩
/-- a pure expression of the block's -/
theorem Cs.pure {env' : Env} {loc' : Loc} {Z₂ : Zm} {H₂ : LH} {s₂ : Shared} (c : Cs h₀ env loc Z H s I D C Z' H' ps s') (k : Ke h₀ env' loc' Z' H' s' Z₂ H₂ s₂) : Cs h₀ env loc Z H s I D C Z₂ H₂ ps s₂ := by
  have fz : ∀ {a : Addr}, (∃ o, s'.heap.get? a = some o) → Z' a = none → Z₂ a = none := fun {a} ⟨o, e⟩ hz => by
    cases q : Z₂ a with
    | none => rfl
    | some o' => have := k.fz.2 a hz (by rw [q]; exact Option.some_ne_none _); rw [e] at this; cases this
  have fh : ∀ {a : Addr}, (∃ o, s'.heap.get? a = some o) → H' a = none → H₂ a = none := fun {a} ⟨o, e⟩ hz => by
    cases q : H₂ a with
    | none => rfl
    | some o' => have := k.fh.2 a hz (by rw [q]; exact Option.some_ne_none _); rw [e] at this; cases this
  obtain ⟨ys, kk, e, r⟩ := c.lst
  obtain ⟨m, hm⟩ := c.ns
  obtain ⟨oI, eI⟩ := c.li
  exact ⟨c.sat.other k, c.kp.trans k.kp, c.fz.trans k.fz c.kp, c.fh.trans k.fh c.kp, ⟨ys, kk, k.kp.get e, r.mono k.fz.1⟩, ⟨m, hm.at' fun o e => k.kp.get e⟩, c.i0, c.d0, c.c0, c.di, c.ci, c.cd, fz c.li c.zi, fz c.dAt c.zd, fz c.cAt c.zc, fh c.li c.hi, fh c.dAt c.hd, fh c.cAt c.hc, ⟨oI, k.kp.get eI⟩, c.s0⟩
/-- what is known behind a comprehension's turns -/
structure Ce (h₀ : Heap) (env : Env) (loc : Loc) (Z : Zm) (H : LH) (s : Shared) (D C : Addr) (Z' : Zm) (H' : LH) (ps : List PV) (s' : Shared) : Prop where
  sat : Sat h₀ Z' env loc H' s'.heap
  kp : Kp s s'
  fz : Fresh s Z Z'
  fh : FreshH s H H'
  lst : ∃ ys k, s'.heap.get? D = some { cls := .type "list", data := .seq (List.toArray ys) k } ∧ VRs Z' ps ys
  ns : ∃ m, s'.heap.Ns C m
  d0 : s.heap.get? D = none
  c0 : s.heap.get? C = none
  cd : C ≠ D
  zd : Z' D = none
  zc : Z' C = none
  hd : H' D = none
  hc : H' C = none
theorem Cs.fin {h' : Heap} {tk : Nat} (c : Cs h₀ env loc Z H s I D C Z' H' ps s') (hk : ∀ b o, b ≠ I → s'.heap.get? b = some o → h'.get? b = some o) : Ce h₀ env loc Z H s D C Z' H' ps { s' with heap := h', toks := tk } := by
  obtain ⟨hh, tt, rfl, kk⟩ := c.kp
  have ne0 : ∀ b o, s.heap.get? b = some o → b ≠ I := fun b o e h => by rw [h, c.i0] at e; cases e
  have S' := c.sat
  refine ⟨⟨S'.base, fun a o e => hk a o (fun h => by rw [h, c.zi] at e; cases e) (S'.frz a o e), S'.nsZ, ?_, S'.cellN, S'.kind, ?_, fun a l e => ?_⟩, ⟨h', tk, rfl, fun b o e => hk b o (ne0 b o e) (kk b o e)⟩, c.fz, c.fh, ?_, ?_, c.d0, c.c0, c.cd, c.zd, c.zc, c.hd, c.hc⟩
  · intro m x hm
    obtain ⟨z, w', o, e, d⟩ := S'.cellZ m x hm
    obtain ⟨_, _, o0, e0, _⟩ := c.s0.cellZ m x hm
    exact ⟨z, w', o, hk x o (ne0 x o0 e0) e, d⟩
  · obtain ⟨m, hm, hl⟩ := S'.ns
    obtain ⟨oL, eL⟩ := c.s0.nsAt
    refine ⟨m, hm.at' fun o e => hk _ o (ne0 _ oL eL) e, fun y p e => ?_⟩
    cases hl y p e with
    | loc v a b c => exact .loc v a b c
    | cell x v a b d g =>
      obtain ⟨o, eo, d'⟩ := d
      obtain ⟨_, _, o0, e0, _⟩ := c.s0.cellZ _ x (mem_of_lookup b)
      exact .cell x v a b ⟨o, hk x o (ne0 x o0 e0) eo, d'⟩ g
  · obtain ⟨z, vs, k, e', r⟩ := S'.obj a l e
    exact ⟨z, vs, k, hk a _ (fun h => by rw [h, c.hi] at e; cases e) e', r⟩
  · obtain ⟨ys, k, e, r⟩ := c.lst
    exact ⟨ys, k, hk D _ c.di e, r⟩
  · obtain ⟨m, hm⟩ := c.ns
    exact ⟨m, hm.at' fun o e => hk C o c.ci e⟩
inductive CpI (h₀ : Heap) (env : Env) (loc : Loc) (Z : Zm) (H : LH) (s : Shared) (I D C : Addr) (Z₁ : Zm) (s' : Shared) (xs : List PV) (Sp : Nat → Heap → Prop) (fa : PV → St → (St → Prop) → Prop) (ft : BT) (fe : ET) (cap : Loc) (Q : List PV → LH → Prop) (k : Nat) (s₄ : Shared) : Prop
  | mk (i : Nat) (Z' : Zm) (H' : LH) (ps : List PV) (c : Cs h₀ env loc Z H s I D C Z' H' ps s₄) (st : Sp i s₄.heap) (le : Zle Z₁ Z') (keep : ∀ b o, s'.heap.get? b = some o → s₄.heap.get? b = some o) (hi : i ≤ xs.length) (hp : ps.length ≤ i) (hk : k = xs.length - i) (f : compW fa ft fe cap (xs.drop i) ps H' Q) : CpI h₀ env loc Z H s I D C Z₁ s' xs Sp fa ft fe cap Q k s₄
theorem compLoop_any {A : Around} {R : Result → Shared → Prop} {s : Shared} {elt target iter : Expr} {ifs : List Expr} {scope : Scope} {pos : Pos} {it acc : Value} {env : Env} (I : Nat → Shared → Prop)
    (turn : ∀ n s, I n s → wpAny (model prog w) A (pyNext it) (fun r s₁ => match r with
      | none => R (.ok .next) s₁
      | some v => wpAny (model prog w) A (letOwnedTupleGo target it v) (fun _ s₁' => wpAny (model prog w) A (assign target env v) (fun _ s₂ =>
          wpAny (model prog w) A (forIn ifs true fun c r => if r = true then do let ok ← isTrue c env (eval c env); pure (ForInStep.yield ok) else pure (ForInStep.yield r)) (fun ok s₃ =>
            if ok = true then wpAny (model prog w) A (eval elt env) (fun x s₄ =>
              wpAny (model prog w) A (call (.builtin "list.append") [acc, x]) (fun _ s₅ => ∃ m, m < n ∧ I m s₅) (notedBy (model prog w) A env fun e s' => R (.error e) s') s₄) (notedBy (model prog w) A env fun e s' => R (.error e) s') s₃
            else ∃ m, m < n ∧ I m s₃) (notedBy (model prog w) A env fun e s' => R (.error e) s') s₂) (notedBy (model prog w) A env fun e s' => R (.error e) s') s₁') (notedBy (model prog w) A env fun e s' => R (.error e) s') s₁) (notedBy (model prog w) A env fun e s' => R (.error e) s') s)
    (n : Nat) (h : I n s) : codeAny (model prog w) A (.compLoop (.ListComp elt [⟨target, iter, ifs, 0⟩] scope pos) 0 it acc env) R s := by
  refine codeAny_loop rfl I (fun n s hI => ?_) n h
  show wpAny _ A ((compTurn (.ListComp elt [⟨target, iter, ifs, 0⟩] scope pos) 0 it acc env).onRaise (fun x => do noteFrame x env; theTreesLotGoes x)) _ _ s
  refine wpAny_noted ?_
  rw [compTurn_list]
  refine wpAny_bind (wpAny_standAt (wpAny_bind (wpAny_mono (turn n s hI) (fun r s₁ h₁ => ?_) fun _ _ h' => h')))
  cases r with
  | none => exact wpAny_pure h₁
  | some v =>
    refine wpAny_bind (wpAny_mono h₁ (fun _ _ h₁ => ?_) fun _ _ h' => h')
    refine wpAny_bind (wpAny_mono h₁ (fun _ s₂ h₂ => wpAny_bind (wpAny_mono h₂ (fun ok s₃ h₃ => ?_) fun _ _ h' => h')) fun _ _ h' => h')
    cases ok with
    | false => exact wpAny_pure ⟨rfl, h₃⟩
    | true =>
      exact wpAny_bind (wpAny_bind (wpAny_mono h₃ (fun x s₄ h₄ => wpAny_bind (wpAny_mono h₄ (fun _ s₅ h₅ => wpAny_pure (wpAny_pure ⟨rfl, h₅⟩)) fun _ _ h' => h')) fun _ _ h' => h'))
theorem comp_loop {A : Around} {Z₁ : Zm} {H₁ : LH} {s₂ : Shared} {a : PV} {x : Value} {xs : List PV} {I : Addr} {fp wr : List Addr} {P : Nat → Value → Prop} {Sp : Nat → Heap → Prop} {elt t iter : Expr} {ifs : List Expr} {scope : Scope} {cl : List (Str × Addr)} {caps : List String} {pos : Pos}
    {fa : PV → St → (St → Prop) → Prop} {ft : BT} {fe : ET} {Q : List PV → LH → Prop} {RR : Value → Addr → Result → Shared → Prop} {E : Value → Shared → Prop}
    (rm : Rm n A) (k₁ : Ke h₀ env loc Z H s Z₁ H₁ s') (S : Sat h₀ Z env loc H s.heap) (va : VR Z₁ a x) (hit : iterOf H₁ a = some xs) (hsz : xs.length ≤ sizeLine)
    (Wk : Wk prog w A Z₁ xs I fp wr P Sp) (kp : Kp s' s₂) (hst : Sp 0 s₂.heap) (hI : s'.heap.get? I = none) (hlive : ∀ i h, Sp i h → ∃ o, h.get? I = some o) (hwr : wr = [I]) (hfp : ∀ b ∈ fp, b = I ∨ .ref b = x)
    (cp : Caps env scope cl caps) (hcell : ∀ y ∈ scope.names, y.2 ≠ .cell)
    (ha : ∀ C, AcOk h₀ prog w (compEnvC scope cl C env) t fa) (ht : ∀ C, TsOk h₀ prog w n (compEnvC scope cl C env) ifs ft) (he : ∀ C, EvAt s.heap h₀ prog w n (compEnvC scope cl C env) elt fe)
    (hlo : LoOk prog w A t I Sp fa) (f : compW fa ft fe (capLoc caps loc) xs [] H₁ Q)
    (hRR : ∀ D C Z' H' ps s₃, Ce h₀ env loc Z H s D C Z' H' ps s₃ → Q ps H' → RR (.ref D) C (.ok .next) s₃) :
    wpAny (model prog w) A (newList []) (fun acc s₃ => wpAny (model prog w) A (newFunctionEnv scope env.globals cl [] env.qual none .none (some env)) (fun cenv s₄ =>
      codeAny (model prog w) A (.compStart (.ListComp elt [⟨t, iter, ifs, 0⟩] scope pos) 0 (.ref I) acc { cenv with scope := relabel scope env }) (RR acc cenv.locals) s₄) E s₃) E s₂ := by
  obtain ⟨oI, eI⟩ := hlive _ _ hst
  have hIs : s.heap.get? I = none := k₁.kp.none hI
  have k₂ := k₁.trans (Ke.keep k₁.sat kp)
  have zI : Z₁ I = none := by
    cases q1 : Z₁ I with
    | none => rfl
    | some o => have := k₁.sat.frz I o q1; rw [hI] at this; cases this
  have hI₁ : H₁ I = none := by
    cases q1 : H₁ I with
    | none => rfl
    | some l => obtain ⟨_, _, _, e, _⟩ := k₁.sat.obj I l q1; rw [hI] at e; cases e
  refine wpAny_newObj_type (wpAny_newFunctionEnv hcell (by intro y hy; simp at hy) (fun h₁ hns₁ hsb₁ => ?_) cp.kind)
  dsimp only at hns₁ hsb₁ ⊢
  generalize hH2 : s₂.heap.push { cls := .type "list", dict := none, data := .seq ([] : List Value).toArray } = H2 at hns₁ hsb₁ ⊢
  generalize hD : s₂.heap.objs.size = D at hns₁ hsb₁ ⊢
  generalize hC : H2.objs.size = C at hns₁ hsb₁ ⊢
  have hCD : C = D + 1 := by rw [← hC, ← hH2, Heap.size_push, hD]
  have hCneD : C ≠ D := by (first | lia | omega)
  have d2 : s₂.heap.get? D = none := by rw [← hD]; exact get_size _
  have c2 : s₂.heap.get? C = none := by
    cases q1 : s₂.heap.get? C with
    | none => rfl
    | some o => have := Heap.lt_size q1; rw [hD, hCD] at this; exact absurd this (Nat.not_lt.mpr (Nat.le_succ D))
  have old : ∀ b o, s₂.heap.get? b = some o → h₁.get? b = some o := fun b o e => by
    have h1 : H2.get? b = some o := hH2 ▸ Heap.get?_push_of_some _ e
    have hb : b ≠ C := fun h => by rw [h, c2] at e; cases e
    exact hsb₁.extBut b o hb (Heap.get?_push_of_some _ h1)
  have hDat : h₁.get? D = some { cls := .type "list", data := .seq (List.toArray ([] : List Value)) 0 } := by
    have h1 : H2.get? D = some { cls := .type "list", data := .seq (List.toArray ([] : List Value)) 0 } := by rw [← hH2, ← hD]; exact Heap.get?_push_size _ rfl
    exact hsb₁.extBut D _ (Ne.symm hCneD) (Heap.get?_push_of_some _ h1)
  have n0 : ∀ {B : Addr}, s₂.heap.get? B = none → s.heap.get? B = none := fun {B} e => k₂.kp.none e
  have zN : ∀ {B : Addr}, s₂.heap.get? B = none → Z₁ B = none := fun {B} e => by
    cases q1 : Z₁ B with
    | none => rfl
    | some o => have := k₂.sat.frz B o q1; rw [e] at this; cases this
  have hN : ∀ {B : Addr}, s₂.heap.get? B = none → H₁ B = none := fun {B} e => by
    cases q1 : H₁ B with
    | none => rfl
    | some o => obtain ⟨_, _, _, e', _⟩ := k₂.sat.obj B o q1; rw [e] at e'; cases e'
  have dI : D ≠ I := fun h => by rw [h, eI] at d2; cases d2
  have cI : C ≠ I := fun h => by rw [h, eI] at c2; cases c2
  have kp₃ : Kp s₂ { s₂ with heap := h₁, toks := s₂.toks + ([] : List (Str × Value)).length } := ⟨h₁, _, rfl, old⟩
  have c₀ : Cs h₀ env loc Z H s I D C Z₁ H₁ [] { s₂ with heap := h₁, toks := s₂.toks + ([] : List (Str × Value)).length } :=
    ⟨k₂.sat.keeps old, k₂.kp.trans kp₃, k₁.fz, k₁.fh, ⟨[], 0, hDat, .nil⟩, ⟨_, hns₁⟩, hIs, n0 d2, n0 c2, dI, cI, hCneD, zI, zN d2, zN c2, hI₁, hN d2, hN c2, ⟨oI, old I oI eI⟩, S⟩
  have frozen : ∀ b ∈ fp, b ≠ I → (∃ o, Z₁ b = some o) ∨ ∃ l, H₁ b = some l := fun b hb hne => by
    rcases hfp b hb with h | h
    · exact absurd h hne
    · cases va with
      | tup z r => cases h; exact .inl ⟨_, z⟩
      | lst z r => cases h; exact .inl ⟨_, z⟩
      | rng z => cases h; exact .inl ⟨_, z⟩
      | ref a =>
        cases h
        change (H₁ b).map (·.xs) = some xs at hit
        cases q1 : H₁ b with
        | none => rw [q1] at hit; cases hit
        | some l => exact .inr ⟨l, rfl⟩
      | raw v => cases hit
      | obj z _ _ => cases hit
      | _ => cases h
  have hst₁ : Sp 0 h₁ := Wk.walks.frame _ _ _ hst fun b _ o e => old b o e
  have nI : ∀ b, b ≠ I → b ∉ wr := fun b hb hm => by rw [hwr] at hm; exact hb (List.mem_singleton.mp hm)
  have fpIn : ∀ b ∈ fp, b ≠ I → ∃ o, s'.heap.get? b = some o := fun b hb hne => by
    rcases frozen b hb hne with ⟨o, z⟩ | ⟨l, hl⟩
    · exact ⟨o, k₁.sat.frz b o z⟩
    · obtain ⟨_, _, _, e, _⟩ := k₁.sat.obj b l hl; exact ⟨_, e⟩
  have loop : ∀ s₃ : Shared, s₃ = { s₂ with heap := h₁, toks := s₂.toks + ([] : List (Str × Value)).length } →
      codeAny (model prog w) A (.compLoop (.ListComp elt [⟨t, iter, ifs, 0⟩] scope pos) 0 (.ref I) (.ref D) (compEnvC scope cl C env)) (RR (.ref D) C) s₃ := by
    rintro s₃ rfl
    refine compLoop_any (CpI h₀ env loc Z H s I D C Z₁ s' xs Sp fa ft fe (capLoc caps loc) Q) ?_ xs.length
      ⟨0, Z₁, H₁, [], c₀, hst₁, Zle.refl _, fun b o e => old b o (kp.get e), Nat.zero_le _, Nat.le_refl _, rfl, f⟩
    intro k s₄ hI'
    obtain ⟨i, Z', H', ps, c, hst', hle, hkeep, hi, hpl, rfl, f'⟩ := hI'
    by_cases hlt : i < xs.length
    · refine Wk.walks.item i s₄ _ _ hlt hst' fun v h' tk hP hst₅ hk₅ => ?_
      obtain ⟨p, hp, vp⟩ := Wk.item i v hP
      have hd : xs.drop i = p :: xs.drop (i + 1) := by
        rw [List.drop_eq_getElem_cons hlt]
        congr 1
        have := List.getElem?_eq_getElem hlt
        rw [this] at hp; exact Option.some.inj hp
      rw [hd] at f'
      obtain ⟨ys, kk, eD, rD⟩ := c.lst
      obtain ⟨m, hm⟩ := c.ns
      have c₁ : Cs h₀ env loc Z H s I D C Z' H' ps { s₄ with heap := h', toks := tk } :=
        c.turn (.inl rfl) (fun b o hb e => hk₅ b o (nI b hb) e) ⟨ys, kk, hk₅ D _ (nI D c.di) eD, rD⟩ ⟨m, hm.at' fun o e => hk₅ C o (nI C c.ci) e⟩ (hlive _ _ hst₅)
      have keep₁ : ∀ b o, s'.heap.get? b = some o → h'.get? b = some o := fun b o e => hk₅ b o (nI b fun h => by rw [h, hI] at e; cases e) (hkeep b o e)
      obtain ⟨m₁, hm₁⟩ := c₁.ns
      have Sb := c₁.sat.block cp hm₁ c₁.zc
      refine hlo (i + 1) _ _ _ _ _ _ _ _ hst₅ vp f' ?_
      refine ha C A Z' (capLoc caps loc) H' _ p v _ _ _ rm.hd Sb (vp.mono hle) f' fun loc₂ s₅ sa f₂ => ?_
      obtain ⟨h₅, t₅, e₅⟩ := sa.sh
      have kp₅ : ∀ b o, b ≠ C → h'.get? b = some o → h₅.get? b = some o := fun b o hb e => by have := sa.kp b o hb e; rw [e₅] at this; exact this
      have n₅ : ∃ m, h₅.Ns C m := by obtain ⟨m, hm, _⟩ := sa.sat.ns; rw [e₅] at hm; exact ⟨m, hm⟩
      obtain ⟨oI₁, eI₁⟩ := c₁.li
      obtain ⟨ys₁, kk₁, eD₁, rD₁⟩ := c₁.lst
      have c₂ : Cs h₀ env loc Z H s I D C Z' H' ps s₅ := by
        rw [e₅]
        exact c₁.turn (.inr (.inr rfl)) (fun b o hb e => kp₅ b o hb e) ⟨ys₁, kk₁, kp₅ D _ (Ne.symm c.cd) eD₁, rD₁⟩ n₅ ⟨oI₁, kp₅ I oI₁ (Ne.symm c.ci) eI₁⟩
      have notC : ∀ b o, s'.heap.get? b = some o → b ≠ C := fun b o e h => by have := kp.get e; rw [h, c2] at this; cases this
      have notD : ∀ b o, s'.heap.get? b = some o → b ≠ D := fun b o e h => by have := kp.get e; rw [h, d2] at this; cases this
      have keep₂ : ∀ b o, s'.heap.get? b = some o → s₅.heap.get? b = some o := fun b o e => by rw [e₅]; exact kp₅ b o (notC b o e) (keep₁ b o e)
      have st₂ : Sp (i + 1) s₅.heap := by
        refine Wk.walks.frame (i + 1) h' s₅.heap hst₅ fun b hb o e => ?_
        rw [e₅]
        refine kp₅ b o (fun h => ?_) e
        by_cases hbI : b = I
        · rw [hbI] at h; exact c.ci h.symm
        · obtain ⟨o', eo⟩ := fpIn b hb hbI
          exact notC b o' eo h
      refine ht C A Z' loc₂ H' s₅ _ _ _ rm sa.sat f₂ fun ok Z₃ H₃ s₆ k₃ f₃ => ?_
      have c₃ := c₂.pure k₃
      have st₃ : Sp (i + 1) s₆.heap := Wk.walks.frame _ _ _ st₂ fun b _ o e => k₃.kp.get e
      have keep₃ : ∀ b o, s'.heap.get? b = some o → s₆.heap.get? b = some o := fun b o e => k₃.kp.get (keep₂ b o e)
      cases ok with
      | false =>
        rw [if_neg (by decide)]
        exact ⟨xs.length - (i + 1), by (first | lia | omega), i + 1, Z₃, H₃, ps, c₃, st₃, hle.trans k₃.fz.1, keep₃, hlt, by (first | lia | omega), rfl, f₃⟩
      | true =>
        rw [if_pos rfl]
        refine he C A Z₃ loc₂ H₃ s₆ _ _ _ rm (fun b o e => c₃.kp.get e) k₃.sat f₃ fun y py Z₄ H₄ s₇ k₄ vy f₄ => ?_
        have c₄ := c₃.pure k₄
        have st₄ : Sp (i + 1) s₇.heap := Wk.walks.frame _ _ _ st₃ fun b _ o e => k₄.kp.get e
        have keep₄ : ∀ b o, s'.heap.get? b = some o → s₇.heap.get? b = some o := fun b o e => k₄.kp.get (keep₃ b o e)
        obtain ⟨ys₄, kk₄, eD₄, rD₄⟩ := c₄.lst
        refine wpAny_list_append_plain (items := ys₄.toArray) ⟨kk₄, eD₄⟩ (fun h₈ hl₈ hs₈ => ?_) (by rw [List.size_toArray, rD₄.length]; (first | lia | omega))
        obtain ⟨k₈, e₈⟩ := hl₈
        have ks : ∀ b o, b ≠ D → s₇.heap.get? b = some o → h₈.get? b = some o := fun b o hb e => hs₈.extBut b o hb e
        obtain ⟨m₄, hm₄⟩ := c₄.ns
        obtain ⟨oI₄, eI₄⟩ := c₄.li
        have c₅ : Cs h₀ env loc Z H s I D C Z₄ H₄ (ps ++ [py]) { s₇ with heap := h₈, toks := s₇.toks } :=
          c₄.turn (.inr (.inl rfl)) ks ⟨ys₄ ++ [y], k₈, by rw [e₈]; simp, rD₄.append (.cons vy .nil)⟩ ⟨m₄, hm₄.at' fun o e => ks C o c.cd e⟩ ⟨oI₄, ks I oI₄ (Ne.symm c.di) eI₄⟩
        refine ⟨xs.length - (i + 1), by (first | lia | omega), i + 1, Z₄, H₄, ps ++ [py], c₅, ?_, (hle.trans k₃.fz.1).trans k₄.fz.1, fun b o e => ks b o (notD b o e) (keep₄ b o e), hlt, by simp; (first | lia | omega), rfl, f₄⟩
        refine Wk.walks.frame (i + 1) s₇.heap h₈ st₄ fun b hb o e => ks b o (fun h => ?_) e
        by_cases hbI : b = I
        · rw [hbI] at h; exact c.di h.symm
        · obtain ⟨o', eo⟩ := fpIn b hb hbI
          exact notD b o' eo h
    · have hin : i = xs.length := by (first | lia | omega)
      subst hin
      refine Wk.walks.done s₄ _ _ hst' fun h' tk hk₅ => ?_
      rw [List.drop_length] at f'
      have cE : Ce h₀ env loc Z H s D C Z' H' ps { s₄ with heap := h', toks := tk } := c.fin fun b o hb e => hk₅ b o (nI b hb) e
      exact hRR D C Z' H' ps _ cE f'
  exact codeAny_compStart_list (loop _ rfl) (Wk.walks.self 0 _ _ _ hst₁ (loop _ rfl))
end
end
end Mine
end
section
namespace Mine
section
variable {K : Frag} {h₀ : Heap} {prog : Program} {w : World} {n : Nat} {env : Env} {loc : Loc} {Z Z' : Zm} {H H' : LH} {h h' : Heap} {s s' : Shared}
theorem Sat.but {B : Addr} (S : Sat h₀ Z env loc H h) (hk : ∀ b o, b ≠ B → h.get? b = some o → h'.get? b = some o) (hL : env.locals ≠ B) (hC : ∀ m c, (m, c) ∈ env.cells → c ≠ B) (hZ : Z B = none) (hH : H B = none) : Sat h₀ Z env loc H h' := by
  refine ⟨S.base, fun a o e => hk a o (fun h => by rw [h, hZ] at e; cases e) (S.frz a o e), S.nsZ, ?_, S.cellN, S.kind, ?_, fun a l e => ?_⟩
  · intro m x hm
    obtain ⟨z, w', o, e, d⟩ := S.cellZ m x hm
    exact ⟨z, w', o, hk x o (hC m x hm) e, d⟩
  · obtain ⟨m, hm, hl⟩ := S.ns
    refine ⟨m, hm.at' fun o e => hk _ o hL e, fun y p e => ?_⟩
    cases hl y p e with
    | loc v a b c => exact .loc v a b c
    | cell x v a b d g =>
      obtain ⟨o, eo, d'⟩ := d
      exact .cell x v a b ⟨o, hk x o (hC _ x (mem_of_lookup b)) eo, d'⟩ g
  · obtain ⟨z, vs, k, e', r⟩ := S.obj a l e
    exact ⟨z, vs, k, hk a _ (fun h => by rw [h, hH] at e; cases e) e', r⟩
theorem Sat.addFrozen {D : Addr} {o : Obj} (S : Sat h₀ Z env loc H h) (ho : h.get? D = some o) (hL : env.locals ≠ D) (hC : ∀ m c, (m, c) ∈ env.cells → c ≠ D) (hZ : Z D = none) (hH : H D = none) : Sat h₀ (Z.set D o) env loc H h := by
  refine S.freeze (Zm.le_set o hZ) ?_ ?_ ?_ ?_
  · intro b o' e
    unfold Zm.set at e
    by_cases hb : b = D
    · rw [if_pos hb] at e; cases e; rw [hb]; exact ho
    · rw [if_neg hb] at e; exact S.frz b o' e
  · unfold Zm.set; rw [if_neg hL]; exact S.nsZ
  · intro m c hm; unfold Zm.set; rw [if_neg (hC m c hm)]; exact (S.cellZ m c hm).1
  · intro a l e; unfold Zm.set; rw [if_neg (fun h => by rw [h, hH] at e; cases e)]; exact (S.obj a l e).1
theorem Sat.addList {D : Addr} {vs : List Value} {k : Nat} {l : LO} (S : Sat h₀ Z env loc H h) (ho : h.get? D = some { cls := .type "list", data := .seq vs.toArray k }) (hZ : Z D = none) (hv : VRs Z l.xs vs) : Sat h₀ Z env loc (H.set D l) h where
  base := S.base
  frz := S.frz
  nsZ := S.nsZ
  cellZ := S.cellZ
  cellN := S.cellN
  kind := S.kind
  ns := S.ns
  obj := fun b l' e => by
    by_cases hb : b = D
    · subst hb
      rw [LH.set_self] at e; cases e
      exact ⟨hZ, vs, k, ho, hv⟩
    · rw [LH.set_ne _ _ hb] at e
      exact S.obj b l' e
theorem FreshH.set {D : Addr} {l : LO} (f : FreshH s H H') (hD : H' D = none) (h0 : s.heap.get? D = none) : FreshH s H (H'.set D l) :=
  ⟨fun a l' e => by
    have := f.1 a l' e
    rw [LH.set_ne _ _ (fun h => by rw [h, hD] at this; cases this)]; exact this, fun a h1 h2 => by
    by_cases ha : a = D
    · rw [ha]; exact h0
    · rw [LH.set_ne _ _ ha] at h2; exact f.2 a h1 h2⟩
theorem Fresh.set {D : Addr} {o : Obj} (f : Fresh s Z Z') (hD : Z' D = none) (h0 : s.heap.get? D = none) : Fresh s Z (Z'.set D o) :=
  ⟨f.1.trans (Zm.le_set o hD), fun a h1 h2 => by
    by_cases ha : a = D
    · rw [ha]; exact h0
    · unfold Zm.set at h2; rw [if_neg ha] at h2; exact f.2 a h1 h2⟩
/-- the list of a comprehension, had by value or by address -/
theorem Ce.done {D C : Addr} {ps : List PV} {Q : PV → LH → Prop} {Q' : Value → Shared → Prop} (c : Ce h₀ env loc Z H s D C Z' H' ps s') (S : Sat h₀ Z env loc H s.heap) (hs : ∀ b o, b ≠ C → s'.heap.get? b = some o → h'.get? b = some o) (f : listW ps H' Q)
    (q : ∀ v p Z' H' s', Ke h₀ env loc Z H s Z' H' s' → VR Z' p v → Q p H' → Q' v s') : Q' (.ref D) { s' with heap := h' } := by
  obtain ⟨oL, eL⟩ := S.nsAt
  have lD : env.locals ≠ D := fun h => by rw [h, c.d0] at eL; cases eL
  have lC : env.locals ≠ C := fun h => by rw [h, c.c0] at eL; cases eL
  have xD : ∀ m x, (m, x) ∈ env.cells → x ≠ D := fun m x hm h => by obtain ⟨_, _, o, e, _⟩ := S.cellZ m x hm; rw [h, c.d0] at e; cases e
  have xC : ∀ m x, (m, x) ∈ env.cells → x ≠ C := fun m x hm h => by obtain ⟨_, _, o, e, _⟩ := S.cellZ m x hm; rw [h, c.c0] at e; cases e
  have S₁ : Sat h₀ Z' env loc H' h' := c.sat.but hs lC xC c.zc c.hc
  obtain ⟨ys, k, e, r⟩ := c.lst
  have eD := hs D _ (Ne.symm c.cd) e
  have kp : Kp s { s' with heap := h' } := by
    obtain ⟨hh, tk, rfl, kk⟩ := c.kp
    exact ⟨h', tk, rfl, fun b o eb => hs b o (fun hb => by rw [hb, c.c0] at eb; cases eb) (kk b o eb)⟩
  rcases f with f | f
  · exact q _ _ _ _ _ ⟨S₁.addFrozen eD lD xD c.zd c.hd, kp, c.fz.set c.zd c.d0, c.fh⟩ (.lst (Zm.set_self _ _ _) (r.mono (Zm.le_set _ c.zd))) f
  · exact q _ _ _ _ _ ⟨S₁.addList (l := ⟨true, ps⟩) eD c.zd r, kp, c.fz, c.fh.set c.hd c.d0⟩ (.ref D) (f D c.hd)
theorem Ce.both {D C : Addr} {ps : List PV} {Q : PV → LH → Prop} (c : Ce h₀ env loc Z H s D C Z' H' ps s') (S : Sat h₀ Z env loc H s.heap) (f : listW ps H' Q) :
    ∃ p Z₂ H₂, Ke h₀ env loc Z H s Z₂ H₂ s' ∧ VR Z₂ p (.ref D) ∧ Q p H₂ ∧ Z₂ C = none ∧ H₂ C = none := by
  obtain ⟨oL, eL⟩ := S.nsAt
  have lD : env.locals ≠ D := fun h => by rw [h, c.d0] at eL; cases eL
  have xD : ∀ m x, (m, x) ∈ env.cells → x ≠ D := fun m x hm h => by obtain ⟨_, _, o, e, _⟩ := S.cellZ m x hm; rw [h, c.d0] at e; cases e
  obtain ⟨ys, k, e, r⟩ := c.lst
  rcases f with f | f
  · exact ⟨_, _, _, ⟨c.sat.addFrozen e lD xD c.zd c.hd, c.kp, c.fz.set c.zd c.d0, c.fh⟩, .lst (Zm.set_self _ _ _) (r.mono (Zm.le_set _ c.zd)), f, by unfold Zm.set; rw [if_neg c.cd]; exact c.zc, c.hc⟩
  · exact ⟨_, _, _, ⟨c.sat.addList (l := ⟨true, ps⟩) e c.zd r, c.kp, c.fz, c.fh.set c.hd c.d0⟩, .ref D, f D c.hd, c.zc, by rw [LH.set_ne _ _ c.cd]; exact c.hc⟩
theorem ev_comp {elt t iter : Expr} {ifs : List Expr} {scope : Scope} {cl : List (Str × Addr)} {caps : List String} {pos : Pos} {fi : ET} {fa : PV → St → (St → Prop) → Prop} {ft : BT} {fe : ET}
    (hi : EvOk h₀ prog w n env iter fi) (hclos : closureFor scope env = pure cl) (cp : Caps env scope cl caps) (hcell : ∀ y ∈ scope.names, y.2 ≠ .cell) (hnames : ∀ y ∈ scope.names, y.2 = .local → scope.names.lookup y.1 = some .local)
    (ha : ∀ C, AcOk h₀ prog w (compEnvC scope cl C env) t fa) (ht : ∀ C, TsOk h₀ prog w n (compEnvC scope cl C env) ifs ft) (he : ∀ C, EvOk h₀ prog w n (compEnvC scope cl C env) elt fe)
    (htg : ∀ i v, letOwnedTupleGo t i v = pure () := by intro _ _; rfl) (hs : ∀ x, foldedSetIterable iter env x = pure x := by intro _; rfl) :
    EvOk h₀ prog w n env (.ListComp elt [⟨t, iter, ifs, 0⟩] scope pos) (fun σ Q => fi σ fun a H₁ => ∃ xs, iterOf H₁ a = some xs ∧ xs.length ≤ sizeLine ∧ compW fa ft fe (capLoc caps σ.loc) xs [] H₁ fun ps H₂ => listW ps H₂ Q) := by
  intro A Z loc H s Q Q' E rm S f q
  rw [eval_ListComp]
  refine wpAny_comprehension_free (use := none) rfl hs hclos cp.kind hnames (hi A Z loc H s _ _ _ rm S f fun x a Z₁ H₁ s₁ k₁ va f₁ => ?_)
  obtain ⟨xs, hit, hsz, f₁⟩ := f₁
  refine iter_ok rm k₁.sat va hit fun I fp wr P Sp s₂ Wk kp hst hI hlive hwr hfp _ => ?_
  refine comp_loop (RR := fun acc C => compPost (model prog w) A E none Q' acc C) rm k₁ S va hit hsz Wk kp hst hI hlive hwr hfp cp hcell ha ht (fun C => (he C).at) (lo_plain htg) f₁ ?_
  intro D C Z' H' ps s₃ c fq
  obtain ⟨m, hm⟩ := c.ns
  exact ⟨m, hm, fun h' hs' => c.done S (fun b o hb e => hs'.extBut b o hb e) fq q⟩
/-- x = [.. for ..] where the store comes ahead of the block's end -/
theorem st_assign_comp {elt t iter : Expr} {ifs : List Expr} {scope : Scope} {cl : List (Str × Addr)} {caps : List String} {pos spos py : Pos} {y : String} {fi : ET} {fa : PV → St → (St → Prop) → Prop} {ft : BT} {fe : ET}
    (hi : EvOk h₀ prog w n env iter fi) (hclos : closureFor scope env = pure cl) (cp : Caps env scope cl caps) (hcell : ∀ y ∈ scope.names, y.2 ≠ .cell) (hnames : ∀ y ∈ scope.names, y.2 = .local → scope.names.lookup y.1 = some .local)
    (ha : ∀ C, AcOk h₀ prog w (compEnvC scope cl C env) t fa) (ht : ∀ C, TsOk h₀ prog w n (compEnvC scope cl C env) ifs ft) (he : ∀ C, EvOk h₀ prog w n (compEnvC scope cl C env) elt fe) (hk : Stores env y)
    (hsw : swapsWith (.ListComp elt [⟨t, iter, ifs, 0⟩] scope pos) (some (.Name (Str.ofString y) py)) spos.line env = pure true := by rfl)
    (htg : ∀ i v, letOwnedTupleGo t i v = pure () := by intro _ _; rfl) (hs : ∀ x, foldedSetIterable iter env x = pure x := by intro _; rfl) :
    ExOk h₀ prog w n env (.Assign [.Name (Str.ofString y) py] (.ListComp elt [⟨t, iter, ifs, 0⟩] scope pos) spos)
      (fun σ Q => fi σ fun a H₁ => ∃ xs, iterOf H₁ a = some xs ∧ xs.length ≤ sizeLine ∧ compW fa ft fe (capLoc caps σ.loc) xs [] H₁ fun ps H₂ => listW ps H₂ fun p H₃ => Q .next ⟨σ.loc.set y p, H₃⟩) := by
  intro A Z loc H s Q Q' E rm S f q
  rw [exec_Assign_Name_used _ _ _ _ hsw]
  refine wpAny_bind (wpAny_standAt (wpAny_bind ?_))
  show wpAny _ A (do let _ ← comprehension (.ListComp elt [⟨t, iter, ifs, 0⟩] scope pos) scope env _ (newList []) false (eval iter env) (some (assign (.Name (Str.ofString y) py) env))) _ _ s
  refine wpAny_bind (wpAny_mono (wpAny_comprehension_free (use := some (assign (.Name (Str.ofString y) py) env)) (Q := fun _ s' => Q' .next s') rfl hs hclos cp.kind hnames
    (hi A Z loc H s _ _ _ rm S f fun x a Z₁ H₁ s₁ k₁ va f₁ => ?_)) (fun _ s' hq => wpAny_pure (wpAny_pure hq)) fun _ _ e => e)
  obtain ⟨xs, hit, hsz, f₁⟩ := f₁
  refine iter_ok rm k₁.sat va hit fun I fp wr P Sp s₂ Wk kp hst hI hlive hwr hfp _ => ?_
  refine comp_loop (RR := fun acc C => compPost (model prog w) A E (some (assign (.Name (Str.ofString y) py) env)) (fun _ s' => Q' .next s') acc C) rm k₁ S va hit hsz Wk kp hst hI hlive hwr hfp cp hcell ha ht (fun C => (he C).at) (lo_plain htg) f₁ ?_
  intro D C Z' H' ps s₃ c fq
  show wpAny _ A (assign (.Name (Str.ofString y) py) env (.ref D)) _ _ s₃
  refine wpAny_assign_Name ?_
  obtain ⟨oC, eC⟩ : ∃ o, s₃.heap.get? C = some o := let ⟨_, o, _, _, e, _⟩ := c.ns; ⟨o, e⟩
  obtain ⟨oL, eL⟩ := S.nsAt
  have lC : env.locals ≠ C := fun h => by rw [h, c.c0] at eL; cases eL
  have xC : ∀ m, (m, C) ∉ env.cells := fun m hm => by obtain ⟨_, _, o, e, _⟩ := S.cellZ m C hm; rw [c.c0] at e; cases e
  obtain ⟨p, Z₂, H₂, k, vr, fp, zC, hC⟩ := c.both S fq
  refine store_ok k.sat vr hk fun s'' k₂ => ?_
  have K := k.sk.trans k₂
  have eC' := k₂.frm C oC eC (Ne.symm lC) xC fun xs hx => by rw [hC] at hx; cases hx
  obtain ⟨m, hm⟩ := c.ns
  refine ⟨m, hm.at' fun o e => ?_, fun h' hs' => ?_⟩
  · rw [eC] at e; cases e; exact eC'
  · exact q _ _ _ _ _ _ (K.walk (tk := s''.toks) S (fun b o hb e => hs'.extBut b o hb e) c.c0 zC hC) .next fp
/-- its element may lean on what stands in the frame -/
theorem st_assign_comp_at (Pl : Loc → Prop) {elt t iter : Expr} {ifs : List Expr} {scope : Scope} {cl : List (Str × Addr)} {caps : List String} {pos spos py : Pos} {y : String} {fi : ET} {fa : PV → St → (St → Prop) → Prop} {ft : BT} {fe : ET}
    (hi : EvOk h₀ prog w n env iter fi) (hclos : closureFor scope env = pure cl) (cp : Caps env scope cl caps) (hcell : ∀ y ∈ scope.names, y.2 ≠ .cell) (hnames : ∀ y ∈ scope.names, y.2 = .local → scope.names.lookup y.1 = some .local)
    (ha : ∀ C, AcOk h₀ prog w (compEnvC scope cl C env) t fa) (ht : ∀ C, TsOk h₀ prog w n (compEnvC scope cl C env) ifs ft) (he : ∀ (loc : Loc) (Z : Zm) (H : LH) (s : Shared), Sat h₀ Z env loc H s.heap → Pl loc → ∀ C, EvAt s.heap h₀ prog w n (compEnvC scope cl C env) elt fe) (hk : Stores env y)
    (hsw : swapsWith (.ListComp elt [⟨t, iter, ifs, 0⟩] scope pos) (some (.Name (Str.ofString y) py)) spos.line env = pure true := by rfl)
    (htg : ∀ i v, letOwnedTupleGo t i v = pure () := by intro _ _; rfl) (hs : ∀ x, foldedSetIterable iter env x = pure x := by intro _; rfl) :
    ExOk h₀ prog w n env (.Assign [.Name (Str.ofString y) py] (.ListComp elt [⟨t, iter, ifs, 0⟩] scope pos) spos)
      (fun σ Q => Pl σ.loc ∧ fi σ fun a H₁ => ∃ xs, iterOf H₁ a = some xs ∧ xs.length ≤ sizeLine ∧ compW fa ft fe (capLoc caps σ.loc) xs [] H₁ fun ps H₂ => listW ps H₂ fun p H₃ => Q .next ⟨σ.loc.set y p, H₃⟩) := by
  intro A Z loc H s Q Q' E rm S f q
  obtain ⟨fl, f⟩ := f
  rw [exec_Assign_Name_used _ _ _ _ hsw]
  refine wpAny_bind (wpAny_standAt (wpAny_bind ?_))
  show wpAny _ A (do let _ ← comprehension (.ListComp elt [⟨t, iter, ifs, 0⟩] scope pos) scope env _ (newList []) false (eval iter env) (some (assign (.Name (Str.ofString y) py) env))) _ _ s
  refine wpAny_bind (wpAny_mono (wpAny_comprehension_free (use := some (assign (.Name (Str.ofString y) py) env)) (Q := fun _ s' => Q' .next s') rfl hs hclos cp.kind hnames
    (hi A Z loc H s _ _ _ rm S f fun x a Z₁ H₁ s₁ k₁ va f₁ => ?_)) (fun _ s' hq => wpAny_pure (wpAny_pure hq)) fun _ _ e => e)
  obtain ⟨xs, hit, hsz, f₁⟩ := f₁
  refine iter_ok rm k₁.sat va hit fun I fp wr P Sp s₂ Wk kp hst hI hlive hwr hfp _ => ?_
  refine comp_loop (RR := fun acc C => compPost (model prog w) A E (some (assign (.Name (Str.ofString y) py) env)) (fun _ s' => Q' .next s') acc C) rm k₁ S va hit hsz Wk kp hst hI hlive hwr hfp cp hcell ha ht (he loc Z H s S fl) (lo_plain htg) f₁ ?_
  intro D C Z' H' ps s₃ c fq
  show wpAny _ A (assign (.Name (Str.ofString y) py) env (.ref D)) _ _ s₃
  refine wpAny_assign_Name ?_
  obtain ⟨oC, eC⟩ : ∃ o, s₃.heap.get? C = some o := let ⟨_, o, _, _, e, _⟩ := c.ns; ⟨o, e⟩
  obtain ⟨oL, eL⟩ := S.nsAt
  have lC : env.locals ≠ C := fun h => by rw [h, c.c0] at eL; cases eL
  have xC : ∀ m, (m, C) ∉ env.cells := fun m hm => by obtain ⟨_, _, o, e, _⟩ := S.cellZ m C hm; rw [c.c0] at e; cases e
  obtain ⟨p, Z₂, H₂, k, vr, fp, zC, hC⟩ := c.both S fq
  refine store_ok k.sat vr hk fun s'' k₂ => ?_
  have K := k.sk.trans k₂
  have eC' := k₂.frm C oC eC (Ne.symm lC) xC fun xs hx => by rw [hC] at hx; cases hx
  obtain ⟨m, hm⟩ := c.ns
  refine ⟨m, hm.at' fun o e => ?_, fun h' hs' => ?_⟩
  · rw [eC] at e; cases e; exact eC'
  · exact q _ _ _ _ _ _ (K.walk (tk := s''.toks) S (fun b o hb e => hs'.extBut b o hb e) c.c0 zC hC) .next fp
end
end Mine
end
section
namespace Mine
section
variable {K : Frag} {h₀ : Heap} {prog : Program} {w : World} {env : Env} {pos : Pos}
theorem nm_len (G : Gr K h₀) (e : nsIn K mainGlobals (Str.ofString "len") = some none) (hx : env.kindOf (Str.ofString "len") = some .globalImplicit) (hg : env.globals = mainGlobals) (hb : env.builtins = builtinsNs) : NmOk h₀ prog w env (.Name (Str.ofString "len") pos) (.builtin "len") :=
  nm_boot G e (by decide +kernel) (by decide) hx hg hb (by decide)
theorem nm_chr (G : Gr K h₀) (e : nsIn K mainGlobals (Str.ofString "chr") = some none) (hx : env.kindOf (Str.ofString "chr") = some .globalImplicit) (hg : env.globals = mainGlobals) (hb : env.builtins = builtinsNs) : NmOk h₀ prog w env (.Name (Str.ofString "chr") pos) (.builtin "chr") :=
  nm_boot G e (by decide +kernel) (by decide) hx hg hb (by decide)
theorem nm_range (G : Gr K h₀) (e : nsIn K mainGlobals (Str.ofString "range") = some none) (hx : env.kindOf (Str.ofString "range") = some .globalImplicit) (hg : env.globals = mainGlobals) (hb : env.builtins = builtinsNs) : NmOk h₀ prog w env (.Name (Str.ofString "range") pos) (.type "range") :=
  nm_boot G e (by decide +kernel) (by decide) hx hg hb (by decide)
end
end Mine
end
section
namespace Mine
/-- a def of the text's, its parameters, its body as a transformer -/
noncomputable def Fn (K : Frag) (w : World) (f : Addr) (names : List String) (n : Nat) (Fb : XT) : Prop :=
  keepIn K (.ref f) = true ∧ ∀ (h₀ : Heap) (prog : Program) (env : Env), Gr K h₀ → ∀ loc Z H s ps vs, Sat h₀ Z env loc H s.heap → VRs Z ps vs → OpOk h₀ prog w (n + 1) env loc Z H s (call (.ref f) vs) (fun Q => ps.length = names.length ∧ callW names Fb ps H Q)
theorem Fn.intro {K : Frag} {w : World} {n : Nat} {name qual : Str} {params : Arguments} {body : List Stmt} {scope : Scope} {dV kV doc pm cdv ct oc : Value} {an od : Option Addr} {osl : Array (Option Value)} {f : Addr} {names : List String} {Fb : XT}
    (ho : K.lookup f = some ⟨oc, od, .func (fnOf name qual params body scope dV kV doc pm an cdv ct), osl⟩) (hcd : codeIn K cdv qual = true) (hkp : keepIn K (.ref f) = true)
    (hco : scope.isCoroutine = false) (hgen : scope.isGenerator = false) (hk : scope.kind = .function)
    (hbind : ∀ s vs, vs.length = names.length → BindsTo s (fnOf name qual params body scope dV kV doc pm an cdv ct) ⟨vs, []⟩ ((names.map Str.ofString).zip vs))
    (hkind : (names.all fun y => scope.names.lookup (Str.ofString y) == some .local || scope.names.lookup (Str.ofString y) == some .cell) = true) (hnn : names.Nodup) (hnd : ((cellsFrom 0 scope.names []).map (·.1)).Nodup)
    (hb : ∀ h₀ prog, Gr K h₀ → ∀ L', XsOk h₀ prog w n (envOfC qual scope L' f cdv) body Fb) : Fn K w f names n Fb :=
  ⟨hkp, fun h₀ prog env G => fn_ok G ho hcd hco hgen hk hbind hkind hnn hnd (hb h₀ prog G)⟩
/-- a call of it -/
theorem ev_fn {K : Frag} {h₀ : Heap} {prog : Program} {w : World} {n k : Nat} {env : Env} {x : Str} {f : Addr} {names : List String} {Fb : XT} {p pos : Pos} {e : Expr} {rest : List Expr} {F : EsT} (G : Gr K h₀) (hf : Fn K w f names k Fb)
    (hn : nsIn K mainGlobals x = some (some (.ref f))) (hx : env.kindOf x = some .globalImplicit) (hg : env.globals = mainGlobals) (hd : (x == ("__debug__" : Str)) = false) (hkn : k + 1 ≤ n) (hes : EsOk h₀ prog w n env (e :: rest) F)
    (hs : starEach (e :: rest) env = (false, eval e env) :: starEach rest env := by rfl) (hp : (backTo pos (starEach rest env)).any (·.1) = false := by rfl)
    (he : eval (.Call (.Name x p) (e :: rest) [] pos) env = (do callWith pos (← eval (.Name x p) env) [] (backTo pos (starEach (e :: rest) env)) (backToKw pos (keywordEach [] env))) := by rfl) :
    EvOk h₀ prog w n env (.Call (.Name x p) (e :: rest) [] pos) (fun σ Q => F σ fun ps H₁ => ps.length = names.length ∧ callW names Fb ps H₁ Q) :=
  ev_call (W := fun ps H₁ Q => ps.length = names.length ∧ callW names Fb ps H₁ Q) (nm_glob G hn hx hg hd) (kpr_K G hf.1) hes (fun loc Z H s ps vs S v A Q Q' E rm f' q => hf.2 h₀ prog env G loc Z H s ps vs S v A Q Q' E (rm.le hkn) f' q) hs hp he
theorem bind1 {s : Shared} {fd : FuncData} {x : Str} (h : ∀ a, bindArgs fd ⟨[a], []⟩ = pure [(x, a)]) : ∀ vs : List Value, vs.length = 1 → BindsTo s fd ⟨vs, []⟩ ([x].zip vs)
  | [a], _ => BindsTo.of_eq (h a)
theorem bind4 {s : Shared} {fd : FuncData} {x y z u : Str} (h : ∀ a b c d, bindArgs fd ⟨[a, b, c, d], []⟩ = pure [(x, a), (y, b), (z, c), (u, d)]) : ∀ vs : List Value, vs.length = 4 → BindsTo s fd ⟨vs, []⟩ ([x, y, z, u].zip vs)
  | [a, b, c, d], _ => BindsTo.of_eq (h a b c d)
end Mine
end
section
namespace Mine
theorem forW_inv {fa : PV → St → (St → Prop) → Prop} {fb : XT} {Q : Fl → St → Prop} (I : List PV → St → Prop)
    (step : ∀ p r σ (K : Fl → St → Prop), I (p :: r) σ → (∀ σ', I r σ' → K .next σ') → (∀ σ', I r σ' → K .cont σ') → fa p σ fun σ₁ => fb σ₁ K)
    (fin : ∀ σ, I [] σ → Q .next σ) : ∀ xs σ, I xs σ → forW fa fb xs σ Q
  | [], σ, h => fin σ h
  | p :: r, σ, h => step p r σ _ h (fun σ' h' => forW_inv I step fin r σ' h') (fun σ' h' => forW_inv I step fin r σ' h')
theorem whileW_inv' {ft : BT} {fb : XT} {Q : Fl → St → Prop} (I : Nat → St → Prop)
    (step : ∀ k σ (K : Fl → St → Prop), I k σ → (∀ k' σ', k' < k → I k' σ' → K .next σ') → (∀ k' σ', k' < k → I k' σ' → K .cont σ') → ft σ fun c H₁ => if c then fb ⟨σ.loc, H₁⟩ K else Q .next ⟨σ.loc, H₁⟩) :
    ∀ n k σ, k < n → I k σ → whileW ft fb n σ (fun fl σ => Q fl σ)
  | 0, k, σ, hk, h => absurd hk (Nat.not_lt_zero k)
  | n + 1, k, σ, hk, h => step k σ _ h (fun k' σ' hk' h' => whileW_inv' I step n k' σ' (by (first | lia | omega)) h') (fun k' σ' hk' h' => whileW_inv' I step n k' σ' (by (first | lia | omega)) h')
theorem whileW_inv {ft : BT} {fb : XT} {Q : Fl → St → Prop} (I : Nat → St → Prop)
    (step : ∀ k σ (K : Fl → St → Prop), I k σ → (∀ k' σ', k' < k → I k' σ' → K .next σ') → (∀ k' σ', k' < k → I k' σ' → K .cont σ') → ft σ fun c H₁ => if c then fb ⟨σ.loc, H₁⟩ K else Q .next ⟨σ.loc, H₁⟩)
    (k : Nat) (σ : St) (h : I k σ) : ∃ n, whileW ft fb n σ Q := ⟨k + 1, whileW_inv' I step (k + 1) k σ (Nat.lt_succ_self k) h⟩
theorem compW_eval {fa : PV → St → (St → Prop) → Prop} {ft : BT} {fe : ET} {cap : Loc} (t : PV → Bool) (g : PV → PV) {H : LH} {Q : List PV → LH → Prop} : ∀ (xs acc : List PV),
    (∀ p ∈ xs, ∀ (R1 : PV → LH → Prop) (R2 : LH → Prop), (if t p then R1 (g p) H else R2 H) → fa p ⟨cap, H⟩ fun σ => ft σ fun c H₁ => if c then fe ⟨σ.loc, H₁⟩ R1 else R2 H₁) →
    Q (acc ++ (xs.filter t).map g) H → compW fa ft fe cap xs acc H Q
  | [], acc, _, h => by simpa [compW] using h
  | p :: r, acc, step, h => by
    unfold compW
    refine step p List.mem_cons_self _ _ ?_
    have ih := fun acc' => compW_eval (fa := fa) (ft := ft) (fe := fe) (cap := cap) t g (H := H) (Q := Q) r acc' fun p' hp' => step p' (List.mem_cons_of_mem _ hp')
    cases hp : t p with
    | true =>
      rw [if_pos rfl]
      refine ih _ ?_
      simpa [List.filter_cons, hp] using h
    | false =>
      rw [if_neg (by decide)]
      refine ih _ ?_
      simpa [List.filter_cons, hp] using h
/-- a comprehension without a test -/
theorem compW_map {fa : PV → St → (St → Prop) → Prop} {fe : ET} {cap : Loc} (g : PV → PV) {H : LH} {Q : List PV → LH → Prop} (xs : List PV)
    (step : ∀ p ∈ xs, ∀ (R1 : PV → LH → Prop), R1 (g p) H → fa p ⟨cap, H⟩ fun σ => fe ⟨σ.loc, σ.H⟩ R1)
    (h : Q (xs.map g) H) : compW fa (fun σ Q => Q true σ.H) fe cap xs [] H Q := by
  refine compW_eval (fun _ => true) g xs [] (fun p hp R1 R2 hr => ?_) (by rw [List.filter_eq_self.mpr (fun _ _ => rfl)]; simpa using h)
  rw [if_pos rfl] at hr
  simpa using step p hp R1 hr
theorem Loc.set_apply (l : Loc) (x y : String) (v : PV) : l.set x v y = if y = x then some v else l y := rfl
theorem argLoc_cons (x : String) (xs : List String) (p : PV) (ps : List PV) (y : String) : argLoc (x :: xs) (p :: ps) y = if y = x then some p else argLoc xs ps y := rfl
theorem argLoc_nil (y : String) : argLoc [] [] y = none := rfl
noncomputable def mkS (l : List Nat) : Str := ⟨l.toArray⟩
theorem mkS_len (l : List Nat) : (mkS l).length = l.length := by simp [mkS, Str.length]
theorem mkS_append (a b : List Nat) : mkS a ++ mkS b = mkS (a ++ b) := Str.ext' (by rw [Str.cps_append]; simp [mkS])
theorem mkS_inj {a b : List Nat} (h : mkS a = mkS b) : a = b := by
  have := congrArg (fun s => s.cps.toList) h
  simpa [mkS] using this
theorem mkS_beq (a b : List Nat) : (mkS a == mkS b) = (a == b) := by
  rw [Bool.eq_iff_iff, beq_iff_eq, beq_iff_eq]
  exact ⟨mkS_inj, fun h => by rw [h]⟩
theorem scut_mk (l : List Nat) (lo hi : Option Int) : scut (mkS l) lo hi = mkS (cut l lo hi) := by simp [scut, mkS]
theorem foldl_app (l : List Nat) : ∀ (k : Nat) (a : Array Nat), (List.replicate k l.toArray).foldl (· ++ ·) a = a ++ ((List.replicate k l).flatten).toArray
  | 0, a => by simp
  | k + 1, a => by
    rw [List.replicate_succ, List.foldl_cons, foldl_app l k, List.replicate_succ, List.flatten_cons]
    simp
theorem mul_mk (l : List Nat) (k : Nat) : Txt.mul (mkS l) (k : Int) = mkS ((List.replicate k l).flatten) := by
  unfold Txt.mul
  split
  · have : k = 0 := by (first | lia | omega)
    subst this; rfl
  · split
    · rename_i h1 h2
      simp only [Bool.or_eq_true, beq_iff_eq] at h2
      rcases h2 with h2 | h2
      · have : k = 1 := by (first | lia | omega)
        subst this; simp
      · rw [mkS_len] at h2
        have : l = [] := List.eq_nil_of_length_eq_zero h2
        subst this; simp
    · rw [Int.toNat_natCast]
      show Str.mk ((List.replicate k l.toArray).foldl (· ++ ·) #[]) = _
      rw [foldl_app]
      simp [mkS]
theorem mul_ok (l : List Nat) (k : Nat) (h1 : k ≤ 1000000) (h2 : l.length * k ≤ 1000000) : MulOk (mkS l) (k : Int) := by
  refine ⟨by rw [Bool.or_eq_false_iff, decide_eq_false_iff_not, decide_eq_false_iff_not]; (first | lia | omega), fun hk _ => ?_, fun hk _ => ?_⟩
  · rw [mkS_len]
    have : (l.length : Int) ≤ (2 ^ 63 - 1) / (k : Int) := by
      rw [Int.le_ediv_iff_mul_le (by (first | lia | omega))]
      have h3 : ((l.length * k : Nat) : Int) ≤ ((1000000 : Nat) : Int) := Int.ofNat_le.mpr h2
      rw [Int.natCast_mul] at h3
      (first | lia | omega)
    (first | lia | omega)
  · rw [mkS_len, Int.toNat_natCast]
    unfold Builtin.Str.tooLong
    rw [sizeLine_eq, decide_eq_false_iff_not]
    (first | lia | omega)
theorem iterOf_rng {H : LH} {a b c : Int} (h : Builtin.Range.small a b c = true) : iterOf H (.rng a b c) = some ((rngInts a b c).map .int) := by simp [iterOf, h]
theorem flat_single (c : Nat) : ∀ k, (List.replicate k [c]).flatten = List.replicate k c
  | 0 => rfl
  | k + 1 => by rw [List.replicate_succ, List.flatten_cons, flat_single c k, List.replicate_succ]; rfl
end Mine
end
section
namespace Mine
section
variable {K : Frag} {h₀ : Heap} {prog : Program} {w : World} {n : Nat} {env : Env}
/-- a list that may be changed is changed -/
theorem Sk.setList {loc : Loc} {Z : Zm} {H : LH} {s : Shared} {h' : Heap} {tk : Nat} {l : Addr} {xs ys : List PV} {vs : List Value} {k : Nat} (S : Sat h₀ Z env loc H s.heap) (hl : H l = some ⟨true, xs⟩)
    (hs : Heap.SameBut l s.heap h') (ho : h'.get? l = some { cls := .type "list", data := .seq vs.toArray k }) (hv : VRs Z ys vs) : Sk h₀ env loc Z H s loc Z (H.set l ⟨true, ys⟩) { s with heap := h', toks := tk } := by
  obtain ⟨zl, ws, kk, eo, _⟩ := S.obj l _ hl
  have hL : env.locals ≠ l := fun h => by
    obtain ⟨m, ⟨o', es, ep, e', d', _⟩, _⟩ := S.ns
    rw [h, eo] at e'; cases e'; cases d'
  have hC : ∀ m c, (m, c) ∈ env.cells → c ≠ l := fun m c hm h => by
    obtain ⟨_, w', o, e, d⟩ := S.cellZ m c hm
    rw [h, eo] at e; cases e; cases d
  have ks : ∀ b o, b ≠ l → s.heap.get? b = some o → h'.get? b = some o := fun b o hb e => hs.extBut b o hb e
  refine ⟨⟨S.base, fun a o e => ks a o (fun h => by rw [h, zl] at e; cases e) (S.frz a o e), S.nsZ, ?_, S.cellN, S.kind, ?_, fun a l' e => ?_⟩, ⟨h', tk, rfl⟩, fun b o e _ _ h3 => ks b o (fun h => h3 xs (by rw [h]; exact hl)) e, fun b o e => ?_, Fresh.refl s Z, fun a l' e => ?_⟩
  · intro m x hm
    obtain ⟨z, w', o, e, d⟩ := S.cellZ m x hm
    exact ⟨z, w', o, ks x o (hC m x hm) e, d⟩
  · obtain ⟨m, hm, hl'⟩ := S.ns
    refine ⟨m, hm.at' fun o e => ks _ o hL e, fun y p e => ?_⟩
    cases hl' y p e with
    | loc v a b c => exact .loc v a b c
    | cell x v a b d g =>
      obtain ⟨o, eo', d'⟩ := d
      exact .cell x v a b ⟨o, ks x o (hC _ x (mem_of_lookup b)) eo', d'⟩ g
  · by_cases ha : a = l
    · subst ha
      rw [LH.set_self] at e; cases e
      exact ⟨zl, vs, k, ho, hv⟩
    · rw [LH.set_ne _ _ ha] at e
      obtain ⟨z, us, k', e', r⟩ := S.obj a l' e
      exact ⟨z, us, k', ks a _ ha e', r⟩
  · by_cases hb : b = l
    · rw [hb]; exact ⟨_, ho⟩
    · exact ⟨o, ks b o hb e⟩
  · by_cases ha : a = l
    · subst ha
      exact .inl ⟨_, hl, fun _ => rfl⟩
    · rw [LH.set_ne _ _ ha] at e
      exact .inl ⟨l', e, fun h => h⟩
theorem st_append {o e : Expr} {apos p pos : Pos} {fo fe : ET} {pl : Sem Bool} (ho : EvOk h₀ prog w n env o fo) (he : EvOk h₀ prog w n env e fe)
    (hm : eval (.Call (.Attribute o (Str.ofString "append") apos) [e] [] p) env = (do
      let ov ← eval o env
      standAt apos.atName
      let (f, first) ← holding [ov] (getMethod ov (Str.ofString "append") pl)
      callWith p f first (backTo p (starEach [e] env)) []) := by rfl)
    (hs : starEach [e] env = (false, eval e env) :: starEach [] env := by rfl) (hi : interactive env = false := by rfl) (hw : swapsWith (.Call (.Attribute o (Str.ofString "append") apos) [e] [] p) none pos.line env = pure false := by rfl) :
    ExOk h₀ prog w n env (.Expr (.Call (.Attribute o (Str.ofString "append") apos) [e] [] p) pos)
      (fun σ Q => fo σ fun a H₁ => ∃ l z, a = .ref l ∧ H₁ l = some z ∧ fe ⟨σ.loc, H₁⟩ fun b H₂ => ∃ xs, H₂ l = some ⟨true, xs⟩ ∧ xs.length ≤ sizeLine ∧ Q .next ⟨σ.loc, H₂.set l ⟨true, xs ++ [b]⟩⟩) := by
  intro A Z loc H s Q Q' E rm S f q
  refine wpAny_Expr (MethodCall_ (pl := pl) (ho A Z loc H s _ _ _ rm S f fun x a Z₁ H₁ s₁ k₁ va f₁ => ?_) hm) hi hw
  obtain ⟨l, z, rfl, hz, f₁⟩ := f₁
  cases va with
  | ref _ =>
    obtain ⟨_, vs, k, eo, _⟩ := k₁.sat.obj l z hz
    refine getMethod_builtin ⟨_, eo, rfl⟩ PySem.F.plainAttrs_list PySem.F.slot_list_append PySem.F.type_list_append (fun a e => by cases e; exact ⟨_, eo, rfl⟩) ?_
    have hes : EsOk h₀ prog w n env [e] (fun σ Q => fe σ fun a H₁ => Q [a] H₁) := by
      intro A Z loc H s pos Q Q' E rm S f q
      exact (es_cons (fr := fun σ Q => Q [] σ.H) he es_nil hs) A Z loc H s pos Q Q' E rm S f q
    refine callWith_ok (Q := fun ps H₂ => match ps with | [b] => ∃ xs, H₂ l = some ⟨true, xs⟩ ∧ xs.length ≤ sizeLine ∧ Q .next ⟨loc, H₂.set l ⟨true, xs ++ [b]⟩⟩ | _ => False) (kpr_builtin _) hes rm k₁.sat f₁ (fun us ps Z₂ H₂ s₂ k₂ vu f₂ => ?_) hs rfl
    cases vu with
    | nil => exact f₂.elim
    | cons vb r =>
      cases r with
      | cons _ _ => exact f₂.elim
      | nil =>
      obtain ⟨xs, hx, hsz, f₂⟩ := f₂
      obtain ⟨z₂, ws, k', eo₂, rr⟩ := k₂.sat.obj l _ hx
      refine wpAny_list_append_plain (items := ws.toArray) ⟨k', eo₂⟩ (fun h' hl' hs' => ?_) (by rw [List.size_toArray, rr.length]; exact hsz)
      obtain ⟨k'', e''⟩ := hl'
      have K := Sk.setList (tk := s₂.toks) k₂.sat hx hs' (vs := ws ++ [_]) (k := k'') (by rw [e'']; simp) (rr.append (.cons vb .nil))
      exact q _ _ _ _ _ _ ((k₁.trans k₂).sk.trans K) .next f₂
end
end Mine
end
section
namespace Mine
section
variable {K : Frag} {prog : Program} {w : World} {A : Around}
/-- a def without cells is entered, arguments as they come -/
theorem enter_raw {s : Shared} {R : Result → Shared → Prop} {name qual : Str} {params : Arguments} {body : List Stmt} {scope : Scope} {dV kV doc pm cdv ct oc : Value} {an od : Option Addr} {osl : Array (Option Value)} {f : Addr} {args : Args} {binds : List (Str × Value)}
    (X : K.In s.heap) (NL : s.heap.NoLimit) (ho : K.lookup f = some ⟨oc, od, .func (fnOf name qual params body scope dV kV doc pm an cdv ct), osl⟩) (hcd : codeIn K cdv qual = true)
    (hco : scope.isCoroutine = false) (hgen : scope.isGenerator = false) (hk : scope.kind = .function)
    (hbind : BindsTo s (fnOf name qual params body scope dV kV doc pm an cdv ct) args binds) (hcell : ∀ x ∈ scope.names, x.2 ≠ .cell) (hloc : ∀ x ∈ binds, scope.names.lookup x.1 = some .local)
    (hroom : A.depth < recursionLimit)
    (h : ∀ h₁, h₁.Ns s.heap.objs.size (fun x => binds.reverse.lookup x) → (∀ b o, s.heap.get? b = some o → h₁.get? b = some o) →
      wpAny (model prog w) (A.deeper (envOf qual scope s.heap.objs.size f cdv)) (execs body (envOf qual scope s.heap.objs.size f cdv)) (fun fl s' => R (.ok (.ret (match fl with | .ret v => v | _ => .none))) s')
        (fun e s' => wpAny (model prog w) (A.deeper (envOf qual scope s.heap.objs.size f cdv)) (leaving (envOf qual scope s.heap.objs.size f cdv) e) (fun _ s'' => R (.error e) s'') (fun e' s'' => R (.error e') s'') s')
        { s with heap := h₁, toks := s.toks + binds.length }) :
    codeAny (model prog w) A (.call (.ref f) args) R s :=
  codeAny_call_def hroom (X _ _ ho) rfl NL (codeRec_of X hcd) rfl hbind hcell hloc h hco hgen hk
/-- an attribute of a new instance is set from a name -/
theorem init_store {E : Value → Shared → Prop} {Q : Flow → Shared → Prop} {env : Env} {s : Shared} {g : Heap} {m : Str → Option Value} {x C dx : Addr} {es : List DictEntry} {n : Nat} {y z name : Str} {py pz pa pos : Pos} {v : Value} {rest : List Stmt}
    (F : Fr g env.locals s.heap m) (X₀ : K.In g) (N : News g env.locals s.heap [(x, instObj C dx), (dx, dictOf es n)]) (hne : x ≠ dx)
    (hk : env.scope.kind = .function) (hyl : env.kindOf y = some .local) (hym : m y = some v) (hyd : (y == ("__debug__" : Str)) = false) (hzl : env.kindOf z = some .local) (hzm : m z = some (.ref x)) (hzd : (z == ("__debug__" : Str)) = false)
    (hs : findIn K (.ref C) "__setattr__" = some (some (.builtin "object.__setattr__"))) (hp : plainOver K C = true) (ht : takerIn K C name = some none) (hh : hasDictIn K C = true) (hl : (getL name es).isSome = true)
    (e : ∀ hsh t, (putL name hsh (.str name t) v es, putN name es n) = (es ++ [⟨hsh, .str name t, v⟩], n + 1)) (hlen : es.length ≤ 900)
    (h : ∀ h' hsh t tk, Fr g env.locals h' m → News g env.locals h' [(x, instObj C dx), (dx, dictOf (es ++ [⟨hsh, .str name t, v⟩]) (n + 1))] → wpAny (model prog w) A (execs rest env) Q E { s with heap := h', toks := tk })
    (hsw : swapsWith (.Name y py) (some (.Attribute (.Name z pz) name pa)) pos.line env = pure false) :
    wpAny (model prog w) A (execs (.Assign [.Attribute (.Name z pz) name pa] (.Name y py) pos :: rest) env) Q E s := by
  refine wpAny_execs_cons (plainObj_wpAny_Assign_Attribute (wpAny_Name (wpAny_loadName_local hk hyl F.ns hym (wpAny_Name (wpAny_loadName_local hk hzl F.ns hzm ?_) hzd)) hyd) hsw)
  refine set_dict (m := m) (news := [(x, instObj C dx), (dx, dictOf es n)]) F X₀ N (InstAt.of_news N (.head _) (.tail _ (.head _))) rfl hs hp ht hh hl (e _ _) (.tail hne (.head (fun _ h => nomatch h))) (by simp; (first | lia | omega)) fun h' F' N' => ?_
  exact h h' _ _ _ F' N'
end
end Mine
end
section
namespace Mine
/-- a heap with just the frozen objects -/
theorem zbase {Z : Zm} {h : Heap} (hz : ∀ a o, Z a = some o → h.get? a = some o) : ∃ h₀ : Heap, ∀ a o, h₀.get? a = some o ↔ Z a = some o := by
  refine ⟨hideAll h ((List.range h.objs.size).filter fun a => (Z a).isNone), fun a o => ⟨fun e => ?_, fun e => ?_⟩⟩
  · have e' := of_hideAll _ e
    cases q : Z a with
    | none =>
      have : a ∈ (List.range h.objs.size).filter fun a => (Z a).isNone := by
        rw [List.mem_filter]
        exact ⟨List.mem_range.mpr (Heap.lt_size e'), by rw [q]; rfl⟩
      rw [hideAll_none _ this] at e; cases e
    | some o' => have := hz a o' q; rw [e'] at this; cases this; rfl
  · refine hideAll_get _ (hz a o e) fun hm => ?_
    rw [List.mem_filter, e] at hm
    cases hm.2
theorem Gr.keeps {K : Frag} {h₀ h : Heap} (G : Gr K h₀) (hk : ∀ b o, h₀.get? b = some o → h.get? b = some o) : Gr K h where
  X := G.X.keeps hk
  g := let ⟨mg, hg⟩ := G.g; ⟨mg, hg.keeps hk⟩
  b := let ⟨mb, hb, hx⟩ := G.b; ⟨mb, hb.keeps hk, hx⟩
  nl := G.nl.keeps hk
section
variable {h₀ : Heap} {prog : Program} {w : World} {n : Nat} {env : Env}
theorem Sat.rebase {h₁ : Heap} {Z : Zm} {loc : Loc} {H : LH} {h : Heap} (S : Sat h₀ Z env loc H h) (hz : ∀ a o, h₁.get? a = some o ↔ Z a = some o) : Sat h₁ Z env loc H h where
  base := fun a o e => (hz a o).mp e
  frz := S.frz
  nsZ := S.nsZ
  cellZ := S.cellZ
  cellN := S.cellN
  kind := S.kind
  ns := S.ns
  obj := S.obj
theorem evat_call_raw {g : Heap} {x : String} {p pos : Pos} (fv : Value) {e : Expr} {rest : List Expr} {F : EsT} {W : List PV → LH → (PV → LH → Prop) → Prop}
    (hk : KprOk h₀ prog w fv) (hes : EsOk h₀ prog w n env (e :: rest) F)
    (hop : ∀ (loc : Loc) (Z : Zm) (H : LH) (s : Shared) (ps : List PV) (vs : List Value), (∀ b o, g.get? b = some o → s.heap.get? b = some o) → Sat h₀ Z env loc H s.heap → VRs Z ps vs → OpOk h₀ prog w n env loc Z H s (call fv vs) (W ps H))
    (hd : (Str.ofString x == ("__debug__" : Str)) = false) (hn : (Str.ofString x == ("__classdict__" : Str)) = false)
    (hs : starEach (e :: rest) env = (false, eval e env) :: starEach rest env) (hp : (backTo pos (starEach rest env)).any (·.1) = false)
    (he : eval (.Call (.Name (Str.ofString x) p) (e :: rest) [] pos) env = (do callWith pos (← eval (.Name (Str.ofString x) p) env) [] (backTo pos (starEach (e :: rest) env)) (backToKw pos (keywordEach [] env)))) :
    EvAt g h₀ prog w n env (.Call (.Name (Str.ofString x) p) (e :: rest) [] pos) (fun σ Q => σ.loc x = some (.raw fv) ∧ F σ fun ps H₁ => W ps H₁ Q) := by
  intro A Z loc H s Q Q' E rm hg S f q
  refine Call_ (wpAny_Name (load_ok S f.1 (fun v hv => ?_) hn) hd) he
  cases hv
  refine callWith_ok hk hes rm S f.2 (fun vs ps Z' H' s' k v f' => ?_) hs hp
  exact hop loc Z' H' s' ps vs (fun b o e => k.kp.get (hg b o e)) k.sat v A Q Q' E rm f' fun _ _ _ _ _ k' v' f'' => q _ _ _ _ _ (k.trans k') v' f''
theorem Sat.cellOf {Z : Zm} {loc : Loc} {H : LH} {h : Heap} {x : String} {p : PV} {c : Addr} (S : Sat h₀ Z env loc H h) (e : loc x = some p) (hk : env.kindOf (Str.ofString x) ≠ some .local) (hc : env.cells.lookup (Str.ofString x) = some c) : ∃ v, h.IsCell c (some v) ∧ VR Z p v := by
  obtain ⟨m, hm, hl⟩ := S.ns
  cases hl x p e with
  | loc v a b c => exact absurd a hk
  | cell c' v a b d e' => rw [hc] at b; cases b; exact ⟨v, d, e'⟩
theorem VR.objInv {Z : Zm} {C : Addr} {fs : List (String × PV)} {v : Value} (h : VR Z (.obj C fs) v) : ∃ x dx es k, v = .ref x ∧ Z x = some (instObj C dx) ∧ Z dx = some (dictOf es k) ∧ FRs Z fs es := by
  cases h with
  | obj a b c => exact ⟨_, _, _, _, rfl, a, b, c⟩
theorem FRs.headInt {Z : Zm} {f : String} {i : Int} {fs : List (String × PV)} {es : List DictEntry} (h : FRs Z ((f, .int i) :: fs) es) : ∃ t, getL (Str.ofString f) es = some (some (.int i t)) := by
  cases h with
  | cons a b c =>
    cases a with
    | int _ t =>
      refine ⟨t, ?_⟩
      unfold getL
      rw [List.find?_cons_of_pos (by simp [Value.isStr])]
theorem kpr_fn {f : Addr} (h : FnAt f h₀) : KprOk h₀ prog w (.ref f) := fun h' k => by
  obtain ⟨oc, od, fd, sl, e⟩ := h
  exact keeps_F h' ⟨oc, od, fd, sl, k _ _ e⟩
end
end Mine
end
section
namespace Mine
section
variable {h₀ : Heap} {prog : Program} {w : World} {env : Env} {p : Program} {loose : List Str} {mean : ExcName → Option Value} {mg mb : Str → Option Value}
theorem Sat.neq {Z : Zm} {loc : Loc} {H : LH} {h : Heap} {P : Addr} {ps : Array Value} (S : Sat h₀ Z env loc H h) (hP : h.get? P = some (tabObj ps)) : env.locals ≠ P ∧ (∀ m c, (m, c) ∈ env.cells → c ≠ P) ∧ H P = none := by
  refine ⟨fun q => ?_, fun m c hm q => ?_, ?_⟩
  · obtain ⟨m, ⟨o, es, ep, e, d, _⟩, _⟩ := S.ns
    rw [q, hP] at e; cases e; cases d
  · obtain ⟨_, v, o, e, d⟩ := S.cellZ m c hm
    rw [q, hP] at e; cases e; cases d
  · cases q : H P with
    | none => rfl
    | some l => obtain ⟨_, vs, k, e, _⟩ := S.obj P l q; rw [hP] at e; cases e
/-- a def within a def: the table of its code grows -/
theorem nest_ok {A : Around} {E : Value → Shared → Prop} {s : Shared} {Q : Flow → Shared → Prop} {Z : Zm} {loc : Loc} {H : LH} {fname : String} {params : Arguments} {body : List Stmt} {scope : Scope} {clos : List (Str × Addr)} {pos : Pos} {c P : Addr}
    (T : Top p loose mean mg mb h₀) (C : CodeHd h₀ c P) (S : Sat h₀ Z env loc H s.heap) (hP : s.heap.get? P = some (tabObj #[])) (hZP : Z P = none) (hcode : env.code = .ref c) (hgl : env.globals = mainGlobals) (hcl : closureFor scope env = pure clos)
    (hd0 : params.defaults = []) (hk0 : params.kw_defaults = []) (ha : annTrees params none env = []) (hst : Stores env fname)
    (q : ∀ f c' oc doc ctv mn vs t tb s', Sat h₀ ((Z.set c' oc).set f (fnMade (Str.ofString fname) (qualnameIn env (Str.ofString fname) (Str.ofString fname)) params body scope clos doc mn c' ctv)) env (loc.set fname (.raw (.ref f))) H s'.heap →
      oc.data = .fields vs → vs[1]? = some (.str (qualnameIn env (Str.ofString fname) (Str.ofString fname)) t) → s.heap.get? f = none → s.heap.get? c' = none → c' ≠ f → s'.heap.get? P = some (tabObj tb) →
      (∃ h' tk, s' = { s with heap := h', toks := tk }) → (∀ b o, s.heap.get? b = some o → b ≠ P → b ≠ env.locals → (∀ n, (n, b) ∉ env.cells) → (∀ xs, H b ≠ some ⟨true, xs⟩) → s'.heap.get? b = some o) → Q .next s') :
    wpAny (model prog w) A (exec (.FunctionDef (Str.ofString fname) params body [] none [] scope none (Str.ofString fname) pos) env) Q E s := by
  obtain ⟨hLP, hCP, hHP⟩ := S.neq hP
  have hgs := T.g.keeps S.keep
  obtain ⟨bm, ob, b1, b2, b3, b4, b5, b6⟩ := T.bmain
  have hgP : mainGlobals ≠ P := fun q => by
    obtain ⟨o, es, ep, e, hd, _⟩ := hgs
    rw [q, hP] at e; cases e; cases hd
  have hbP : bm ≠ P := fun q => by
    have e := S.keep _ _ b3
    rw [q, hP] at e; cases e; cases b4
  have hbG : bm ≠ mainGlobals := fun q => by
    obtain ⟨o, es, ep, e, hd, _⟩ := T.g
    rw [q, e] at b3; cases b3; rw [hd] at b6; cases b6
  refine nestDef_K hd0 hk0 ha ?_
  refine makeFunction_K (mg := mg) hcl hgl hgs hcode (C.keeps S.keep) hP trivial rfl hgP ⟨bm, ob, b1, b2, hbG, hbP, S.keep _ _ b3, b4, b5, b6⟩ fun c' ctv doc h' tk hx hge hlt hrec htb => ?_
  obtain ⟨c₂, oc, vs, t, e2, hoc, hd, hv⟩ := hrec
  cases e2
  have gN : s.heap.get? c' = none := Heap.get?_none_of_le hge
  have gF : s.heap.get? h'.objs.size = none := Heap.get?_none_of_le (Nat.le_trans hge (Nat.le_of_lt hlt))
  have ncf : c' ≠ h'.objs.size := Nat.ne_of_lt hlt
  have S1 : Sat h₀ Z env loc H h' := S.but (fun b o hb e => hx b o hb e) hLP hCP hZP hHP
  have zn : ∀ a, s.heap.get? a = none → Z a = none := fun a e => by
    cases q : Z a with
    | none => rfl
    | some o => have := S.frz a o q; rw [e] at this; cases this
  have ln : ∀ a, s.heap.get? a = none → env.locals ≠ a := fun a e q => by
    obtain ⟨m, ⟨o, es, ep, e', d, _⟩, _⟩ := S.ns
    rw [q, e] at e'; cases e'
  have cn : ∀ a, s.heap.get? a = none → ∀ m c, (m, c) ∈ env.cells → c ≠ a := fun a e m c hm q => by
    obtain ⟨_, v, o, e', d⟩ := S.cellZ m c hm
    rw [q, e] at e'; cases e'
  have hn : ∀ a, s.heap.get? a = none → H a = none := fun a e => by
    cases q : H a with
    | none => rfl
    | some l => obtain ⟨_, vs, k, e', _⟩ := S.obj a l q; rw [e] at e'; cases e'
  have S2 : Sat h₀ (Z.set c' oc) env loc H h' := S1.addFrozen hoc (ln _ gN) (cn _ gN) (zn _ gN) (hn _ gN)
  generalize hfo : fnMade (Str.ofString fname) (qualnameIn env (Str.ofString fname) (Str.ofString fname)) params body scope clos doc ((mg "__name__").getD .none) c' ctv = fo
  have S3 : Sat h₀ ((Z.set c' oc).set h'.objs.size fo) env loc H (h'.push fo) := (S2.keeps fun b o e => Heap.get?_push_of_some _ e).addFrozen (Heap.get?_push_size _ (by rw [← hfo]; rfl)) (ln _ gF) (cn _ gF) (by unfold Zm.set; rw [if_neg (Ne.symm ncf)]; exact zn _ gF) (hn _ gF)
  refine store_ok (s := { s with heap := h'.push fo, toks := tk }) (x := fname) (p := .raw (.ref h'.objs.size)) S3 (.raw _) hst fun s' k => ?_
  obtain ⟨h2, tk2, rfl⟩ := k.sh
  generalize (#[] ++ #[rawInt pos.line, rawInt pos.col, Value.ref c'] : Array Value) = tb at htb
  refine q h'.objs.size c' oc doc ctv ((mg "__name__").getD .none) vs t tb _ (by rw [hfo]; exact k.sat) hd hv gF gN ncf ?_ ⟨_, _, rfl⟩ fun b o e hbP hbL hbC hbH => ?_
  · exact k.frm P _ (Heap.get?_push_of_some _ htb) hLP.symm (fun n hm => hCP n P hm rfl) fun xs hx => by rw [hHP] at hx; cases hx
  · have e1 : (h'.push fo).get? b = some o := Heap.get?_push_of_some _ (hx b o hbP e)
    exact k.frm b o e1 hbL hbC hbH
end
end Mine
end
section
namespace Mine
section
variable {h₀ : Heap} {env : Env}
/-- back in the caller, one object has changed -/
theorem Sat.back {Z Z' : Zm} {loc : Loc} {H : LH} {h h' : Heap} {P : Addr} {tb tb' : Array Value} (S : Sat h₀ Z env loc H h) (hP : h.get? P = some (tabObj tb)) (hP' : h'.get? P = some (tabObj tb')) (hZP : Z P = none)
    (hall : ∀ b o, b ≠ P → h.get? b = some o → h'.get? b = some o) (hz : Zle Z Z') (hfr : ∀ a, Z a = none → Z' a ≠ none → h.get? a = none) (hfz : ∀ a o, Z' a = some o → h'.get? a = some o) : Sat h₀ Z' env loc H h' := by
  obtain ⟨hLP, hCP, hHP⟩ := S.neq hP
  have S1 : Sat h₀ Z env loc H h' := S.but hall hLP hCP hZP hHP
  have no : ∀ a o, h.get? a = some o → Z a = none → Z' a = none := fun a o e hz => by
    cases q : Z' a with
    | none => rfl
    | some o' => have := hfr a hz (by rw [q]; exact Option.some_ne_none _); rw [e] at this; cases this
  refine S1.freeze hz hfz ?_ ?_ ?_
  · obtain ⟨o, e⟩ := S.nsAt
    exact no _ o e S.nsZ
  · intro m c hm
    obtain ⟨z, _, o, e, _⟩ := S.cellZ m c hm
    exact no _ o e z
  · intro a l e
    obtain ⟨z, _, _, eo, _⟩ := S.obj a l e
    exact no _ _ eo z
theorem XsOk.use {prog : Program} {w : World} {n : Nat} {body : List Stmt} {F : XT} {A : Around} {Z : Zm} {loc : Loc} {H : LH} {s : Shared} {Q : Fl → St → Prop} {Q' : Flow → Shared → Prop} {E : Value → Shared → Prop} (h : XsOk h₀ prog w n env body F) (rm : Rm n A) (S : Sat h₀ Z env loc H s.heap) (f : F ⟨loc, H⟩ Q)
    (q : ∀ fl p loc' Z' H' s', Sk h₀ env loc Z H s loc' Z' H' s' → FlR Z' p fl → Q p ⟨loc', H'⟩ → Q' fl s') : wpAny (model prog w) A (execs body env) Q' E s := h A Z loc H s Q Q' E rm S f q
theorem LH.ro_some {H : LH} {a : Addr} {l : LO} (e : H.ro a = some l) : ∃ l', H a = some l' ∧ l.xs = l'.xs := by
  unfold LH.ro at e
  cases q1 : H a with
  | none => rw [q1] at e; cases e
  | some l' => rw [q1] at e; cases e; exact ⟨l', rfl, rfl⟩
theorem LH.ro_not {H : LH} {a : Addr} {xs : List PV} : H.ro a ≠ some ⟨true, xs⟩ := fun hx => by
  unfold LH.ro at hx
  cases q1 : H a with
  | none => rw [q1] at hx; cases hx
  | some l' => rw [q1] at hx; cases hx
end
end Mine
end
section
namespace Mine
theorem execs_app (env : Env) (rest : List Stmt) : ∀ pre : List Stmt, execs (pre ++ rest) env = (do match ← execs pre env with | .next => execs rest env | f => pure f)
  | [] => by
    show execs rest env = (do match ← (pure Flow.next : Sem Flow) with | .next => execs rest env | f => pure f)
    rw [pure_bind]
  | st :: pre => by
    show execs (st :: (pre ++ rest)) env = _
    rw [execs_cons, execs_cons, bind_assoc]
    congr 1
    funext f
    cases f with
    | next => exact execs_app env rest pre
    | _ => simp
section
variable {h₀ : Heap} {env : Env}
theorem xs_app {prog : Program} {w : World} {n : Nat} {pre rest : List Stmt} {F : XT} {A : Around} {Z : Zm} {loc : Loc} {H : LH} {s : Shared} {Q : Fl → St → Prop} {Q' : Flow → Shared → Prop} {E : Value → Shared → Prop} (h : XsOk h₀ prog w n env pre F) (rm : Rm n A) (S : Sat h₀ Z env loc H s.heap) (f : F ⟨loc, H⟩ Q)
    (q : ∀ fl p loc' Z' H' s', Sk h₀ env loc Z H s loc' Z' H' s' → FlR Z' p fl → Q p ⟨loc', H'⟩ → match fl with | .next => wpAny (model prog w) A (execs rest env) Q' E s' | fl => Q' fl s') : wpAny (model prog w) A (execs (pre ++ rest) env) Q' E s := by
  rw [execs_app]
  refine wpAny_bind (h A Z loc H s Q _ E rm S f fun fl p loc' Z' H' s' k v f' => ?_)
  have := q fl p loc' Z' H' s' k v f'
  cases fl <;> first | exact this | exact wpAny_pure this
theorem VRs.ints {Z : Zm} : ∀ {vs : List Value} {ws : List Int}, IntsAre vs ws → VRs Z (ws.map .int) vs
  | _, _, .nil => .nil
  | _, _, .cons n t r => .cons (.int n t) (VRs.ints r)
theorem ints_of_well {P : Params} {h : Heap} : ∀ {ws : List Int} {vs : List Value}, WellAll P h vs (ofPys (ws.map PyData.int)) → IntsAre vs ws
  | [], _, x => by cases x; exact .nil
  | n :: ws, _, x => by
    cases x with
    | cons a r =>
      cases a with
      | int _ t => exact .cons n t (ints_of_well r)
noncomputable def startLoc (ws : List Int) : Loc := fun y => if y = "script" then some (.lst (ws.map .int)) else none
theorem start_ok {g h₁ : Heap} {m : Str → Option Value} {a : Addr} {vs : List Value} {ws : List Int} {k : Nat} (F : Fr g env.locals h₁ m) (hk : env.scope.kind = .function) (hc : ∀ n c, (n, c) ∈ env.cells → g.get? c = none ∧ ∃ w, h₁.IsCell c w) (hn : (env.cells.map (·.2)).Nodup)
    (hl : env.kindOf (Str.ofString "script") = some .local) (hm : m (Str.ofString "script") = some (.ref a)) (ha : g.get? a = some { cls := .type "list", data := .seq vs.toArray k }) (hI : IntsAre vs ws) :
    Sat g (fun a => g.get? a) env (startLoc ws) (fun _ => none) h₁ where
  base := fun _ _ e => e
  frz := F.keep
  nsZ := Heap.get?_none_of_le F.above
  cellZ := hc
  cellN := hn
  kind := hk
  ns := ⟨m, F.ns, fun x p e => by
    unfold startLoc at e
    by_cases hx : x = "script"
    · subst hx
      rw [if_pos rfl] at e; cases e
      exact .loc _ hl hm (.lst ha (VRs.ints hI))
    · rw [if_neg hx] at e; cases e⟩
  obj := fun _ _ e => by cases e
end
end Mine
end
section
namespace Mine
section
variable {H : LH} {Q : PV → LH → Prop} {i j : Int} {xs ys : List PV} {x y : Str} {a b : Addr} {l l' : LO} {p : PV}
theorem bin_addI (h : Q (.int (i + j)) H) : binW .Add (.int i) (.int j) H Q := h
theorem bin_subI (h : Q (.int (i - j)) H) : binW .Sub (.int i) (.int j) H Q := h
theorem bin_mulI (h0 : IntMulOk i j) (h : Q (.int (i * j)) H) : binW .Mult (.int i) (.int j) H Q := ⟨h0, h⟩
theorem bin_modI (h0 : j ≠ 0) (h : Q (.int (i.fmod j)) H) : binW .Mod (.int i) (.int j) H Q := ⟨h0, h⟩
theorem bin_divI (h0 : j ≠ 0) (h1 : j.natAbs < 1073741824) (h : Q (.int (i.fdiv j)) H) : binW .FloorDiv (.int i) (.int j) H Q := ⟨⟨h0, h1⟩, h⟩
theorem bin_addS (h0 : x.length + y.length ≤ sizeLine) (h : Q (.str (x ++ y)) H) : binW .Add (.str x) (.str y) H Q := ⟨h0, h⟩
theorem bin_addLL (h0 : xs.length + ys.length ≤ sizeLine) (h : listW (xs ++ ys) H Q) : binW .Add (.lst xs) (.lst ys) H Q := ⟨xs, ys, rfl, rfl, h0, h⟩
theorem lstOf_ref (h : H a = some l) : lstOf H (.ref a) = some l.xs := by simp [lstOf, h]
theorem in_addI (h : Q (.int (i + j)) H) : inW .Add (.int i) (.int j) H Q := h
theorem seqIndex_nat {k n : Nat} (h : k < n) : seqIndex? (k : Int) n = some k := by
  unfold seqIndex?
  rw [if_neg (Int.not_lt.mpr (Int.natCast_nonneg k))]
  exact if_pos (by simpa using h)
theorem idx_L {k : Nat} (hp : xs[k]? = some p) (hb : xs.length < 2 ^ 62) (h : Q p H) : idxW (.lst xs) (.int (k : Int)) H Q := by
  have hk := (List.getElem?_eq_some_iff.mp hp).1
  exact ⟨by (first | lia | omega), xs, p, rfl, by rw [seqIndex_nat hk]; exact hp, h⟩
theorem idx_R {k : Nat} (ha : H a = some l) (hp : l.xs[k]? = some p) (hb : l.xs.length < 2 ^ 62) (h : Q p H) : idxW (.ref a) (.int (k : Int)) H Q := by
  have hk := (List.getElem?_eq_some_iff.mp hp).1
  exact ⟨by (first | lia | omega), l.xs, p, lstOf_ref ha, by rw [seqIndex_nat hk]; exact hp, h⟩
theorem len_L (hb : xs.length < 2 ^ 62) (h : Q (.int xs.length) H) : lenOp [.lst xs] H Q := ⟨_, rfl, xs, rfl, hb, h⟩
theorem len_R (ha : H a = some l) (hb : l.xs.length < 2 ^ 62) (h : Q (.int l.xs.length) H) : lenOp [.ref a] H Q := ⟨_, rfl, l.xs, lstOf_ref ha, hb, h⟩
theorem len_S (hb : x.length < 2 ^ 62) (h : Q (.int x.length) H) : lenOp [.str x] H Q := ⟨_, rfl, hb, h⟩
theorem cut_L {lo hi : Option Int} (hb : xs.length ≤ sizeLine) (h : listW (cut xs lo hi) H Q) : cutW (.lst xs) lo hi H Q := ⟨xs, rfl, hb, h⟩
theorem cut_S {lo hi : Option Int} (hb : x.length ≤ sizeLine) (h : Q (.str (scut x lo hi)) H) : cutW (.str x) lo hi H Q := ⟨hb, h⟩
theorem cmp_eqI {R : Bool → Prop} (h : R (i == j)) : cmpW .Eq (.int i) (.int j) H R := h
theorem cmp_ltI {R : Bool → Prop} (h : R (decide (i < j))) : cmpW .Lt (.int i) (.int j) H R := h
theorem cmp_leI {R : Bool → Prop} (h : R (decide (i ≤ j))) : cmpW .LtE (.int i) (.int j) H R := h
theorem cmp_eqS {R : Bool → Prop} (h : R (x == y)) : cmpW .Eq (.str x) (.str y) H R := h
theorem cmp_neS {R : Bool → Prop} (h : R (x != y)) : cmpW .NotEq (.str x) (.str y) H R := h
theorem get_W {o : Option PV} {k : PV → Prop} (e : o = some p) (h : k p) : getW o k := ⟨p, e, h⟩
end
section
variable {h₀ : Heap} {env : Env} {prog : Program} {w : World} {n : Nat}
theorem EvOk.use {e : Expr} {F : ET} {A : Around} {Z : Zm} {loc : Loc} {H : LH} {s : Shared} {Q : PV → LH → Prop} {Q' : Value → Shared → Prop} {E : Value → Shared → Prop} (h : EvOk h₀ prog w n env e F) (rm : Rm n A) (S : Sat h₀ Z env loc H s.heap) (f : F ⟨loc, H⟩ Q)
    (q : ∀ v p Z' H' s', Ke h₀ env loc Z H s Z' H' s' → VR Z' p v → Q p H' → Q' v s') : wpAny (model prog w) A (eval e env) Q' E s := h A Z loc H s Q Q' E rm S f q
theorem Ke.noZ {Z Z' : Zm} {loc : Loc} {H H' : LH} {s s' : Shared} {a : Addr} {o : Obj} (k : Ke h₀ env loc Z H s Z' H' s') (e : s.heap.get? a = some o) (h : Z a = none) : Z' a = none := by
  cases q : Z' a with
  | none => rfl
  | some o' => have := k.fz.2 a h (by rw [q]; exact Option.some_ne_none _); rw [e] at this; cases this
end
end Mine
end
section
open PySem PySem.W PyProof.Rows PySem.Calls PySem.Builtin
namespace Mine
/-- the blanks for a tab at a column -/
noncomputable def xtB (size : Int) (col : Nat) : Nat := if size > 0 then size.toNat - col % size.toNat else 0
noncomputable def xtStep (size : Int) (s : Array Nat × Nat) (c : Nat) : Array Nat × Nat := if c = 9 then (s.1 ++ Array.replicate (xtB size s.2) 32, s.2 + xtB size s.2) else (s.1.push c, if c = 10 ∨ c = 13 then 0 else s.2 + 1)
theorem xtB_le (size : Int) (col : Nat) (h : size ≤ 9) : xtB size col ≤ 9 := by
  unfold xtB; split
  · (first | lia | omega)
  · (first | lia | omega)
theorem xt_loop (size : Int) (hs : size ≤ 9) : ∀ (l : List Nat) (s : Array Nat × Nat), s.1.size + 9 * l.length ≤ 1000 →
    (forIn l s fun c __s =>
      if (c == 9) = true then
        if Str.tooLong (__s.fst.size + if size > 0 then size.toNat - __s.snd % size.toNat else 0) = true then do
          unsupported "str.expandtabs:memory"
          pure (ForInStep.yield (__s.fst ++ Array.replicate (if size > 0 then size.toNat - __s.snd % size.toNat else 0) 32, __s.snd + if size > 0 then size.toNat - __s.snd % size.toNat else 0))
        else pure (ForInStep.yield (__s.fst ++ Array.replicate (if size > 0 then size.toNat - __s.snd % size.toNat else 0) 32, __s.snd + if size > 0 then size.toNat - __s.snd % size.toNat else 0))
      else pure (ForInStep.yield (__s.fst.push c, if (c == 10 || c == 13) = true then 0 else __s.snd + 1)) : Sem (Array Nat × Nat)) = pure (l.foldl (xtStep size) s)
  | [], s, _ => by simp
  | c :: l, s, h => by
    simp only [List.length_cons] at h
    have hb := xtB_le size s.2 hs
    have e : (if size > 0 then size.toNat - s.snd % size.toNat else 0) = xtB size s.2 := rfl
    have hl : Str.tooLong (s.1.size + xtB size s.2) = false := by
      unfold Str.tooLong; refine decide_eq_false ?_; rw [sizeLine_eq]; (first | lia | omega)
    rw [List.forIn_cons, List.foldl_cons]
    by_cases hc : c = 9
    · subst hc
      simp only [e, hl, beq_self_eq_true, if_true, Bool.false_eq_true, if_false, pure_bind]
      rw [xt_loop size hs l _ (by simp only [Array.size_append, Array.size_replicate]; (first | lia | omega))]
      simp [xtStep]
    · simp only [beq_eq_false_iff_ne.mpr hc, Bool.false_eq_true, if_false, pure_bind]
      rw [xt_loop size hs l _ (by simp only [Array.size_push]; (first | lia | omega))]
      simp [xtStep, hc]
noncomputable def xtTab (size : Int) (x : Str) : Str := ⟨(x.cps.toList.foldl (xtStep size) (#[], 0)).1⟩
theorem gives_xt (x : Str) (k : Int) (t u : Tok) (h0 : -100 ≤ k) (hk : k ≤ 9) (hl : x.length ≤ 100) : Gives («str.expandtabs» ⟨[.str x t, .int k u], []⟩) (if x.cps.contains 9 then .str (xtTab k x) else .val (.str x t)) := by
  unfold «str.expandtabs»
  have e1 : Str.strSelf ⟨[.str x t, .int k u], []⟩ = pure (.str x t, x, [.int k u]) := rfl
  have e2 : Str.bindOptional "str.expandtabs" "expandtabs" 0 ["tabsize"] [.int k u] [] = pure [some (.int k u)] := rfl
  have e3 : asIndex (.int k u) = pure k := rfl
  have e4 : (decide (k < -2 ^ 31) || decide (k ≥ 2 ^ 31)) = false := by simp; (first | lia | omega)
  simp only [e1, e2, e3, pure_bind, e4, Bool.false_eq_true, if_false]
  cases hc : x.cps.contains 9 with
  | false => simp only [Bool.not_false, if_true]; exact .rule (.of_eq rfl)
  | true =>
    simp only [Bool.not_true, Bool.false_eq_true, if_false, if_true]
    rw [← Array.forIn_toList, xt_loop k hk _ _ (by have : x.cps.size = x.length := rfl; simp; (first | lia | omega))]
    exact .of_eq rfl
theorem xt_none (size : Int) : ∀ (l : List Nat) (s : Array Nat × Nat), 9 ∉ l → (l.foldl (xtStep size) s).1 = s.1 ++ l.toArray
  | [], s, _ => by simp
  | c :: l, s, h => by
    have h1 : c ≠ 9 := fun e => h (by rw [e]; exact List.mem_cons_self)
    rw [List.foldl_cons, xt_none size l _ fun h' => h (List.mem_cons_of_mem _ h')]
    simp only [xtStep, if_neg h1]
    apply Array.ext'; simp
theorem xt_size (size : Int) (hs : size ≤ 9) : ∀ (l : List Nat) (s : Array Nat × Nat), (l.foldl (xtStep size) s).1.size ≤ s.1.size + 9 * l.length
  | [], s => by simp
  | c :: l, s => by
    rw [List.foldl_cons]
    have := xt_size size hs l (xtStep size s c)
    have hb := xtB_le size s.2 hs
    have e : (xtStep size s c).1.size ≤ s.1.size + 9 := by
      unfold xtStep
      split
      · simp only [Array.size_append, Array.size_replicate]; (first | lia | omega)
      · simp only [Array.size_push]; (first | lia | omega)
    simp only [List.length_cons]
    (first | lia | omega)
theorem xt_call {prog : Program} {w : World} {A : Around} {E : Value → Shared → Prop} {s : Shared} {Q : Value → Shared → Prop} {x : Str} {k : Int} {t u : Tok} (h0 : -100 ≤ k) (hk : k ≤ 9) (hl : x.length ≤ 100)
    (h : ∀ t' tk, Q (.str (xtTab k x) t') { s with toks := tk }) : wpAny (model prog w) A (call (.builtin "str.expandtabs") [.str x t, .int k u]) Q E s := by
  refine call_gives F.slot_str_expandtabs (typeIs_str _ _ _) F.entry_str_expandtabs (F.args_str_expandtabs_2 _ _) (gives_xt x k t u h0 hk hl) ?_
  cases hc : x.cps.contains 9 with
  | false =>
    simp only [Bool.false_eq_true, if_false]
    have e : xtTab k x = x := by
      unfold xtTab
      rw [xt_none k _ _ (by intro hm; have := Array.contains_iff_mem.mpr (Array.mem_toList_iff.mp hm); rw [hc] at this; cases this)]
      simp
    have := h t s.toks
    rw [e] at this
    exact this
  | true =>
    simp only [if_true]
    refine ⟨?_, h _ _⟩
    have := xt_size k hk x.cps.toList (#[], 0)
    rw [sizeLine_eq]
    have e : x.cps.toList.length = x.length := by simp [Str.length]
    show (x.cps.toList.foldl (xtStep k) (#[], 0)).1.size ≤ _
    rw [e] at this
    simp only [Array.size_empty, Nat.zero_add] at this
    (first | lia | omega)
end Mine
end
section
namespace Mine
section
variable {prog : Program} {w : World} {A : Around} {E : Value → Shared → Prop} {s : Shared} {env : Env} {Q : Value → Shared → Prop} {o : Expr} {apos pos p1 p2 : Pos} {k1 k2 : Nat}
theorem rep_meth {a b : Str} (hab : (a == b) = false) (hb : b.length ≤ 14)
    (h : wpAny (model prog w) A (eval o env) (fun v s₁ => ∃ x t, v = .str x t ∧ 0 < s₁.toks ∧ x.length ≤ 1048576 ∧ ∀ t' k, Q (.str (Txt.replace x a b) t') { s₁ with toks := k }) E s)
    (pl : Sem Bool)
    (he : eval (.Call (.Attribute o (Str.ofString "replace") apos) [.Constant (.str a) k1 p1, .Constant (.str b) k2 p2] [] pos) env = (do
      let ov ← eval o env
      standAt apos.atName
      let (f, first) ← holding [ov] (getMethod ov (Str.ofString "replace") pl)
      callWith pos f first (backTo pos (starEach [.Constant (.str a) k1 p1, .Constant (.str b) k2 p2] env)) [])) :
    wpAny (model prog w) A (eval (.Call (.Attribute o (Str.ofString "replace") apos) [.Constant (.str a) k1 p1, .Constant (.str b) k2 p2] [] pos) env) Q E s := by
  refine MethodCall_ (wpAny_mono h (fun v s₁ z => ?_) fun _ _ z => z) he
  obtain ⟨x, t, rfl, h0, hx, hq⟩ := z
  refine GM.replace ?_
  refine callWith_method1 (wpAny_items_cons (wpAny_Constant_str (wpAny_items_cons (wpAny_Constant_str (wpAny_items_nil ?_)) rfl)) rfl) rfl rfl
  refine SC.replaceW (by show @Ne Nat s₁.toks 0; (first | lia | omega)) (by show @Ne Nat (s₁.toks + 1) 0; (first | lia | omega)) (by show @Ne Nat s₁.toks (s₁.toks + 1); (first | lia | omega)) hab hx hb fun t' k => ?_
  exact hq t' k
theorem rs_meth {a : Str}
    (h : wpAny (model prog w) A (eval o env) (fun v s₁ => ∃ x t, v = .str x t ∧ x.length ≤ sizeLine ∧ ∀ t' k, Q (.str (Txt.rstripChars x a) t') { s₁ with toks := k }) E s)
    (pl : Sem Bool)
    (he : eval (.Call (.Attribute o (Str.ofString "rstrip") apos) [.Constant (.str a) k1 p1] [] pos) env = (do
      let ov ← eval o env
      standAt apos.atName
      let (f, first) ← holding [ov] (getMethod ov (Str.ofString "rstrip") pl)
      callWith pos f first (backTo pos (starEach [.Constant (.str a) k1 p1] env)) [])) :
    wpAny (model prog w) A (eval (.Call (.Attribute o (Str.ofString "rstrip") apos) [.Constant (.str a) k1 p1] [] pos) env) Q E s := by
  refine MethodCall_ (wpAny_mono h (fun v s₁ z => ?_) fun _ _ z => z) he
  obtain ⟨x, t, rfl, hx, hq⟩ := z
  refine GM.rstrip ?_
  refine callWith_method1 (wpAny_items_cons (wpAny_Constant_str (wpAny_items_nil ?_)) rfl) rfl rfl
  exact SC.rstripChars (fun t' k => hq t' k) hx
theorem xt_meth {e : Expr} (h : wpAny (model prog w) A (eval o env) (fun v s₁ => ∃ x t, v = .str x t ∧ x.length ≤ 100 ∧ wpAny (model prog w) A (eval e env) (fun k s₂ => ∃ i u, k = .int i u ∧ -100 ≤ i ∧ i ≤ 9 ∧ ∀ t' k, Q (.str (xtTab i x) t') { s₂ with toks := k }) E s₁) E s)
    (pl : Sem Bool)
    (he : eval (.Call (.Attribute o (Str.ofString "expandtabs") apos) [e] [] pos) env = (do
      let ov ← eval o env
      standAt apos.atName
      let (f, first) ← holding [ov] (getMethod ov (Str.ofString "expandtabs") pl)
      callWith pos f first (backTo pos (starEach [e] env)) [])) (hs : starEach [e] env = (false, eval e env) :: starEach [] env) :
    wpAny (model prog w) A (eval (.Call (.Attribute o (Str.ofString "expandtabs") apos) [e] [] pos) env) Q E s := by
  refine MethodCall_ (wpAny_mono h (fun v s₁ z => ?_) fun _ _ z => z) he
  obtain ⟨x, t, rfl, hx, hq⟩ := z
  refine getMethod_builtin (T := "str") (name := "expandtabs") (id := "str.expandtabs") (typeIs_str _ _ _) F.plainAttrs_str F.slot_str_expandtabs F.type_str_expandtabs (fun _ e => nomatch e) ?_
  refine callWith_method1 (wpAny_items_cons (wpAny_mono hq (fun v s₂ z => ?_) fun _ _ z => z) hs) hs rfl
  obtain ⟨i, u, rfl, h1, h2, hq⟩ := z
  refine wpAny_items_nil ?_
  exact xt_call h1 h2 hx fun t' k => hq t' k
end
end Mine
end
section
namespace Mine
/-- the body of a def of one line that closes over self: what it gives -/
noncomputable def BodyOk (prog : Program) (w : World) (K : Frag) (C : Addr) (spec : Int → Str → Str) (qual : Str) (scope : Scope) (clos : List (Str × Addr)) (cs : Addr) (body : List Stmt) : Prop :=
  ∀ (A : Around) (E : Value → Shared → Prop) (g : Heap) (L f : Addr) (cdv : Value) (s : Shared) (Q : Flow → Shared → Prop) (line : Str) (t : Tok) (size : Int) (tk : Tok) (x dx : Addr) (es : List DictEntry) (n : Nat),
    K.In g → Fr g L s.heap (fun y => [(Str.ofString "line", Value.str line t)].reverse.lookup y) → line.length ≤ 100 → -1 ≤ size → size ≤ 9 → 0 < s.toks → g.IsCell cs (some (.ref x)) → InstAt g x (instObj C dx) C (some (dictOf es n)) → getL (Str.ofString "_tabsize") es = some (some (.int size tk)) →
    (∀ t' h' tk' m', Fr g L h' m' → Q (.ret (.str (spec size line) t')) { s with heap := h', toks := tk' }) →
    wpAny (model prog w) A (execs body (envX qual scope L f cdv clos)) Q E s
section
variable {prog : Program} {w : World} {K : Frag} {C : Addr} {spec : Int → Str → Str}
theorem expand_call {A : Around} {E : Value → Shared → Prop} {s : Shared} {Q' : Value → Shared → Prop} {f c' cs x dx : Addr} {name qual : Str} {params : Arguments} {body : List Stmt} {scope : Scope} {clos : List (Str × Addr)} {doc mn ctv : Value} {line : Str} {t tk : Tok} {size : Int} {es : List DictEntry} {n : Nat}
    (X : K.In s.heap) (nl : s.heap.NoLimit) (hf : s.heap.get? f = some (fnMade name qual params body scope clos doc mn c' ctv)) (hcr : s.heap.CodeRec (.ref c') qual) (hb : BodyOk prog w K C spec qual scope clos cs body)
    (hco : scope.isCoroutine = false) (hgen : scope.isGenerator = false) (hk : scope.kind = .function) (hcell : ∀ x ∈ scope.names, x.2 ≠ .cell) (hloc : scope.names.lookup (Str.ofString "line") = some .local)
    (hbind : ∀ v, bindArgs (fnX name qual params body scope clos .none .none doc mn none (.ref c') ctv) ⟨[v], []⟩ = pure [(Str.ofString "line", v)])
    (hc : s.heap.IsCell cs (some (.ref x))) (I : InstAt s.heap x (instObj C dx) C (some (dictOf es n))) (hg : getL (Str.ofString "_tabsize") es = some (some (.int size tk)))
    (hd : A.depth < recursionLimit) (hl : line.length ≤ 100) (h0 : -1 ≤ size) (h9 : size ≤ 9) (q : ∀ t' s', Kp s s' → Q' (.str (spec size line) t') s') : wpAny (model prog w) A (call (.ref f) [.str line t]) Q' E s := by
  refine wpAny_call ?_
  refine codeAny_call_function hd hf rfl hco hgen rfl hcr (BindsTo.of_eq (hbind _) _ _ _ _ ?_)
  refine wpAny_newFunctionEnv hcell (fun y hy => ?_) (fun h₁ hns hsb => ⟨nl.fresh _ hsb, codeAny_func ?_⟩) hk
  · rcases List.mem_cons.mp hy with rfl | hy
    · exact hloc
    · cases hy
  have hkeep : ∀ b o, s.heap.get? b = some o → h₁.get? b = some o := fun b o e => hsb.extBut b o (Nat.ne_of_lt (Heap.lt_size e)) (Heap.get?_push_of_some _ e)
  refine hb _ _ s.heap s.heap.objs.size f (.ref c') _ _ line t size tk x dx es n X ⟨hns, hkeep, Nat.le_refl _⟩ hl h0 h9 (Nat.succ_pos _) hc I hg fun t' h' tk' m' F => ?_
  exact q t' _ ⟨h', tk', rfl, F.keep⟩
theorem expand_op {h₁ : Heap} {n : Nat} {f c' cs : Addr} {name qual : Str} {params : Arguments} {body : List Stmt} {scope : Scope} {clos : List (Str × Addr)} {doc mn ctv : Value} {oc : Obj} {vs : Array Value} {t : Tok} {size : Int}
    (G : Gr K h₁) (hf : h₁.get? f = some (fnMade name qual params body scope clos doc mn c' ctv)) (hoc : h₁.get? c' = some oc) (hod : oc.data = .fields vs) (hvs : vs[1]? = some (.str qual t))
    (hb : BodyOk prog w K C spec qual scope clos cs body)
    (hco : scope.isCoroutine = false) (hgen : scope.isGenerator = false) (hk : scope.kind = .function) (hcell : ∀ x ∈ scope.names, x.2 ≠ .cell) (hloc : scope.names.lookup (Str.ofString "line") = some .local)
    (hbind : ∀ v, bindArgs (fnX name qual params body scope clos .none .none doc mn none (.ref c') ctv) ⟨[v], []⟩ = pure [(Str.ofString "line", v)])
    (h0 : -1 ≤ size) (h9 : size ≤ 9) :
    ∀ (g : Heap) (x dx : Addr) (es : List DictEntry) (k : Nat) (tk : Tok), g.IsCell cs (some (.ref x)) → g.get? x = some (instObj C dx) → g.get? dx = some (dictOf es k) → getL (Str.ofString "_tabsize") es = some (some (.int size tk)) →
    ∀ (env : Env) (loc : Loc) (Z : Zm) (H : LH) (s : Shared) (ps : List PV) (vs : List Value), (∀ b o, g.get? b = some o → s.heap.get? b = some o) → Sat h₁ Z env loc H s.heap → VRs Z ps vs →
      OpOk h₁ prog w (n + 1) env loc Z H s (call (.ref f) vs) (fun Q => ∃ line, ps = [.str line] ∧ line.length ≤ 100 ∧ Q (.str (spec size line)) H) := by
  intro g x dx es k tk hc hx hdx hg env loc Z H s ps vs' hgs S hv A Q Q' E rm hW q
  obtain ⟨line, rfl, hl, hQ⟩ := hW
  cases hv with
  | cons a r =>
    cases r
    cases a with
    | str _ tl =>
      obtain ⟨oc', ec, dc⟩ := hc
      refine expand_call (cs := cs) (x := x) (dx := dx) (es := es) (n := k) (tk := tk) (size := size) (G.X.keeps S.keep) (G.nl.keeps S.keep) (S.keep _ _ hf) ⟨c', oc, vs, t, rfl, S.keep _ _ hoc, hod, hvs⟩ hb hco hgen hk hcell hloc hbind ⟨oc', hgs _ _ ec, dc⟩ ⟨hgs _ _ hx, rfl, rfl, hgs _ _ hdx⟩ hg (by have := rm.dp; (first | lia | omega)) hl h0 h9 fun t' s' kp => ?_
      exact q _ _ _ _ _ (Ke.keep S kp) (.str _ _) hQ
end
end Mine
end
section
namespace Mine
section
variable {h₀ : Heap} {prog : Program} {w : World} {n : Nat} {env : Env}
/-- a method of a text's, with arguments -/
theorem ev_smeth {o : Expr} {name : Str} {apos pos : Pos} {e : Expr} {rest : List Expr} {id : String} {fo : ET} {F : EsT} {W : Str → List PV → LH → (PV → LH → Prop) → Prop} (pl : Sem Bool)
    (hget : ∀ (A : Around) (E : Value → Shared → Prop) (s : Shared) (x : Str) (t : Tok) (Q : Value × List Value → Shared → Prop), Q (.builtin id, [.str x t]) s → wpAny (model prog w) A (getMethod (.str x t) name pl) Q E s)
    (hop : ∀ (loc : Loc) (Z : Zm) (H : LH) (s : Shared) (x : Str) (t : Tok) (ps : List PV) (vs : List Value), Sat h₀ Z env loc H s.heap → VRs Z ps vs → OpOk h₀ prog w n env loc Z H s (call (.builtin id) (.str x t :: vs)) (W x ps H))
    (ho : EvOk h₀ prog w n env o fo) (hes : EsOk h₀ prog w n env (e :: rest) F)
    (he : eval (.Call (.Attribute o name apos) (e :: rest) [] pos) env = (do
      let ov ← eval o env
      standAt apos.atName
      let (f, first) ← holding [ov] (getMethod ov name pl)
      callWith pos f first (backTo pos (starEach (e :: rest) env)) []))
    (hs : starEach (e :: rest) env = (false, eval e env) :: starEach rest env) (hp : (backTo pos (starEach rest env)).any (·.1) = false) :
    EvOk h₀ prog w n env (.Call (.Attribute o name apos) (e :: rest) [] pos) (fun σ Q => fo σ fun a H₁ => ∃ x, a = .str x ∧ F ⟨σ.loc, H₁⟩ fun ps H₂ => W x ps H₂ Q) := by
  intro A Z loc H s Q Q' E rm S f q
  refine MethodCall_ (pl := pl) (ho A Z loc H s _ _ _ rm S f fun v a Z₁ H₁ s₁ k₁ va f₁ => ?_) he
  obtain ⟨x, rfl, f₁⟩ := f₁
  cases va with
  | str _ t =>
    refine hget A _ s₁ x t _ ?_
    refine callWith_ok (first := [.str x t]) (kpr_builtin id) hes rm k₁.sat f₁ (fun vs ps Z' H' s' k v f' => ?_) hs hp
    exact hop loc Z' H' s' x t ps vs k.sat v A Q Q' E rm f' fun _ _ _ _ _ k' v' f'' => q _ _ _ _ _ (k₁.trans (k.trans k')) v' f''
noncomputable def countW (x : Str) (ps : List PV) (H : LH) (Q : PV → LH → Prop) : Prop := ∃ y, ps = [.str y] ∧ Q (.int (Txt.count x y)) H
theorem count_ok (loc : Loc) (Z : Zm) (H : LH) (s : Shared) (x : Str) (t : Tok) (ps : List PV) (vs : List Value) (S : Sat h₀ Z env loc H s.heap) (v : VRs Z ps vs) : OpOk h₀ prog w n env loc Z H s (call (.builtin "str.count") (.str x t :: vs)) (countW x ps H) := by
  rintro A Q Q' E rm ⟨y, rfl, f⟩ q
  cases v with
  | cons a r =>
    cases r
    cases a with
    | str _ u => exact SC.count (q _ _ _ _ _ (Ke.toks S _) (.int _ _) f)
theorem VRs.strs {Z : Zm} : ∀ (l : List (Str × Tok)), VRs Z ((l.map (·.1)).map .str) (strValues l)
  | [] => .nil
  | p :: l => .cons (.str _ _) (VRs.strs l)
noncomputable def splitW (x : Str) (ps : List PV) (H : LH) (Q : PV → LH → Prop) : Prop := ∃ y, ps = [.str y] ∧ (y.length == 0) = false ∧ x.length ≤ sizeLine ∧ (Builtin.Str.partsBetween x (Builtin.Str.occurrences x y 0 x.length (x.length + 1)) y.length).length ≤ sizeLine ∧ listW ((Txt.split x y).map .str) H Q
theorem split_ok (loc : Loc) (Z : Zm) (H : LH) (s : Shared) (x : Str) (t : Tok) (ps : List PV) (vs : List Value) (S : Sat h₀ Z env loc H s.heap) (v : VRs Z ps vs) : OpOk h₀ prog w n env loc Z H s (call (.builtin "str.split") (.str x t :: vs)) (splitW x ps H) := by
  rintro A Q Q' E rm ⟨y, rfl, hy, hsz, hsz2, f⟩ q
  cases v with
  | cons a r =>
    cases r
    cases a with
    | str _ u =>
      have fin : ∀ (l : List (Str × Tok)) (tk : Nat), l.map (·.1) = Txt.split x y → Q' (.ref s.heap.objs.size) { s with toks := tk, heap := s.heap.push { cls := .type "list", data := .seq (strValues l).toArray } } := fun l tk hl => by
        refine list_new S f q ⟨_, _, rfl, fun _ _ e => Heap.get?_push_of_some _ e⟩ (get_size _) (Heap.get?_push_size _ rfl) ?_
        rw [← hl]; exact VRs.strs l
      cases h1 : (decide (x.length < y.length) || decide (Builtin.Str.strKind x < Builtin.Str.strKind y))
      · cases hf : (Builtin.Str.occurrences x y 0 x.length (x.length + 1)).isEmpty
        · refine call_meets F.slot_str_split (typeIs_str _ _ _) F.entry_str_split (F.args_str_split_2 _ _) (meets_str_split_sep x y t u h1 hy hf hsz hsz2) ?_
          show wants Q' E _ { s with toks := _, heap := s.heap.push { cls := .type "list", data := .seq (strsFrom s.toks (Builtin.Str.partsBetween x (Builtin.Str.occurrences x y 0 x.length (x.length + 1)) y.length)).toArray } }
          rw [strsFrom_eq]
          exact fin (numbered s.toks _) _ ((numbered_texts _ _).trans ((if_neg (ne_true_of_eq_false h1)).trans (if_neg (ne_true_of_eq_false hf))).symm)
        · exact call_meets F.slot_str_split (typeIs_str _ _ _) F.entry_str_split (F.args_str_split_2 _ _) (meets_str_split_not_found x y t u h1 hy hf)
            (fin [(x, t)] _ ((if_neg (ne_true_of_eq_false h1)).trans (if_pos hf)).symm)
      · exact call_meets F.slot_str_split (typeIs_str _ _ _) F.entry_str_split (F.args_str_split_2 _ _) (meets_str_split_cannot_occur x y t u h1)
          (fin [(x, t)] _ (if_pos h1).symm)
end
end Mine
end
section
namespace Mine
section
variable {h₀ : Heap} {prog : Program} {w : World} {n : Nat} {env : Env}
end
end Mine
end
section
namespace Mine
theorem FRs.get {Z : Zm} {f : String} {p : PV} : ∀ {fs : List (String × PV)} {es : List DictEntry}, FRs Z fs es → fs.lookup f = some p → ∃ v, getL (Str.ofString f) es = some (some v) ∧ VR Z p v ∧ handedIn v = true
  | _, _, .nil, h => by cases h
  | (g, x) :: fs, _, .cons (v := v) a b c, h => by
    rw [List.lookup_cons] at h
    by_cases e : f = g
    · subst e
      simp only [beq_self_eq_true] at h
      cases h
      refine ⟨v, ?_, a, b⟩
      unfold getL
      rw [List.find?_cons_of_pos (by simp [Value.isStr])]
    · have e' : (f == g) = false := by simpa using e
      rw [e'] at h
      obtain ⟨v', hv, r⟩ := FRs.get c h
      refine ⟨v', ?_, r⟩
      unfold getL at hv ⊢
      rw [List.find?_cons_of_neg (by simp [Value.isStr]; exact fun h => e (ofString_inj h.symm))]
      split at hv
      · exact hv
      · split at hv
        · cases hv
        · cases hv
theorem FRs.not {Z : Zm} {f : String} : ∀ {fs : List (String × PV)} {es : List DictEntry}, FRs Z fs es → fs.lookup f = none → getL (Str.ofString f) es = some none
  | _, _, .nil, h => rfl
  | (g, x) :: fs, _, .cons (v := v) a b c, h => by
    rw [List.lookup_cons] at h
    by_cases e : f = g
    · subst e
      simp only [beq_self_eq_true] at h
      cases h
    · have e' : (f == g) = false := by simpa using e
      rw [e'] at h
      have hv := FRs.not c h
      unfold getL at hv ⊢
      rw [List.find?_cons_of_neg (by simp [Value.isStr]; exact fun h => e (ofString_inj h.symm))]
      split at hv
      · cases hv
      · split at hv
        · cases hv
        · rename_i h2
          exact if_neg h2
section
variable {K : Frag} {h₀ : Heap} {prog : Program} {w : World} {n : Nat} {env : Env}
/-- x.f, x a name, f an own attribute of an instance of C -/
theorem ev_attr {C : Addr} {x f : String} {np pos : Pos} {attr : Option Value} (G : Gr K h₀) (hd : (Str.ofString x == ("__debug__" : Str)) = false) (hn : (Str.ofString x == ("__classdict__" : Str)) = false)
    (hg : plainGet K C (Str.ofString f) = true) (hh : hasDictIn K C = true) (ha : findIn K (.ref C) (Str.ofString f) = some attr) (hng : noGet K attr = true) :
    EvOk h₀ prog w n env (.Attribute (.Name (Str.ofString x) np) (Str.ofString f) pos) (fun σ Q => getW (σ.loc x) fun a => ∃ fs p, a = .obj C fs ∧ fs.lookup f = some p ∧ Q p σ.H) := by
  intro A Z loc H s Q Q' E rm S fq q
  obtain ⟨p, e, fs, p', rfl, hp, fq⟩ := fq
  refine Attribute_name (wpAny_Name (load_ok S e (fun v hv => ?_) hn) hd)
  obtain ⟨y, dx, es, kk, rfl, zx, zdx, fr⟩ := hv.objInv
  obtain ⟨v, hl, vr, hv⟩ := fr.get hp
  have I : InstAt s.heap y (instObj C dx) C (some (dictOf es kk)) := ⟨S.frz _ _ zx, rfl, rfl, S.frz _ _ zdx⟩
  exact get_value (G.X.keeps S.keep) I (plainGet_of hg).1 (findObj_own hh ha hng hl) hv (q _ _ _ _ _ (Ke.toks S _) vr fq)
/-- an operation that may change lists -/
noncomputable def MOp (h₀ : Heap) (prog : Program) (w : World) (n : Nat) (env : Env) (loc : Loc) (Z : Zm) (H : LH) (s : Shared) (t : Sem Value) (W : (PV → LH → Prop) → Prop) : Prop :=
  ∀ (A : Around) (Q : PV → LH → Prop) (Q' : Value → Shared → Prop) (E : Value → Shared → Prop), Rm n A → W Q →
    (∀ v p Z' H' s', Sk h₀ env loc Z H s loc Z' H' s' → VR Z' p v → Q p H' → Q' v s') → wpAny (model prog w) A t Q' E s
theorem Sk.of_callee {Z Z' : Zm} {env' : Env} {loc loc' loc'' : Loc} {H H' : LH} {s s₁ s₂ : Shared} (S : Sat h₀ Z env loc H s.heap) (hkp : Kp s s₁) (Kc : Sk h₀ env' loc' Z H s₁ loc'' Z' H' s₂)
    (hL : s.heap.get? env'.locals = none) (hC : ∀ n c, (n, c) ∈ env'.cells → s.heap.get? c = none) : Sk h₀ env loc Z H s loc Z' H' s₂ := by
  have hall : ∀ b o, s.heap.get? b = some o → (∀ xs, H b ≠ some ⟨true, xs⟩) → s₂.heap.get? b = some o := fun b o e h => by
    refine Kc.frm b o (hkp.get e) ?_ ?_ h
    · intro h; rw [h, hL] at e; cases e
    · intro m hm; rw [hC m b hm] at e; cases e
  have noH : ∀ b o, s.heap.get? b = some o → (∀ vs k, o ≠ { cls := .type "list", data := .seq vs k }) → H b = none := fun b o e h => by
    cases q : H b with
    | none => rfl
    | some l => obtain ⟨_, vs, k, e', _⟩ := S.obj b l q; rw [e] at e'; cases e'; exact absurd rfl (h _ _)
  have hcell : ∀ m c, (m, c) ∈ env.cells → ∀ o, s.heap.get? c = some o → s₂.heap.get? c = some o := fun m c hm o e => by
    obtain ⟨_, w', oc, ec, d⟩ := S.cellZ m c hm
    rw [e] at ec; cases ec
    refine hall c _ e fun xs hx => ?_
    rw [noH c _ e (fun vs k h => by rw [h] at d; cases d)] at hx; cases hx
  have hns : ∀ o, s.heap.get? env.locals = some o → s₂.heap.get? env.locals = some o := fun o e => by
    obtain ⟨m, ⟨o', es, ep, e', d', _⟩, _⟩ := S.ns
    rw [e] at e'; cases e'
    refine hall _ _ e fun xs hx => ?_
    rw [noH _ _ e (fun vs k h => by rw [h] at d'; cases d')] at hx; cases hx
  refine ⟨⟨Kc.sat.base, Kc.sat.frz, ?_, ?_, S.cellN, S.kind, ?_, Kc.sat.obj⟩, ?_, fun b o e _ _ h3 => hall b o e h3, ?_, ?_, ?_⟩
  · obtain ⟨o, e⟩ := S.nsAt
    exact Kc.noZ (hkp.get e) S.nsZ
  · intro m c hm
    obtain ⟨z, w', o, e, d⟩ := S.cellZ m c hm
    exact ⟨Kc.noZ (hkp.get e) z, w', o, hcell m c hm o e, d⟩
  · obtain ⟨m, hm, hl⟩ := S.ns
    refine ⟨m, hm.at' fun o e => hns o e, fun y p e => ?_⟩
    cases hl y p e with
    | loc v a b c => exact .loc v a b (c.mono Kc.fz.1)
    | cell x v a b d g =>
      obtain ⟨o, eo', d'⟩ := d
      exact .cell x v a b ⟨o, hcell _ x (mem_of_lookup b) o eo', d'⟩ (g.mono Kc.fz.1)
  · obtain ⟨h', tk, rfl, _⟩ := hkp
    obtain ⟨h'', tk', rfl⟩ := Kc.sh
    exact ⟨h'', tk', rfl⟩
  · exact fun b o e => Kc.live b o (hkp.get e)
  · exact ⟨Kc.fz.1, fun a h1 h2 => hkp.none (Kc.fz.2 a h1 h2)⟩
  · intro a l' e
    rcases Kc.fh a l' e with h | h
    · exact .inl h
    · exact .inr (hkp.none h)
/-- a call of a def that may change lists -/
theorem mfn_ok {name qual : Str} {params : Arguments} {body : List Stmt} {scope : Scope} {dV kV doc pm cdv ct oc : Value} {an od : Option Addr} {osl : Array (Option Value)} {f : Addr} {names : List String} {Fb : XT}
    (G : Gr K h₀) (ho : K.lookup f = some ⟨oc, od, .func (fnOf name qual params body scope dV kV doc pm an cdv ct), osl⟩) (hcd : codeIn K cdv qual = true)
    (hco : scope.isCoroutine = false) (hgen : scope.isGenerator = false) (hk : scope.kind = .function)
    (hbind : ∀ s vs, vs.length = names.length → BindsTo s (fnOf name qual params body scope dV kV doc pm an cdv ct) ⟨vs, []⟩ ((names.map Str.ofString).zip vs))
    (hkind : (names.all fun y => scope.names.lookup (Str.ofString y) == some .local || scope.names.lookup (Str.ofString y) == some .cell) = true) (hnn : names.Nodup) (hnd : ((cellsFrom 0 scope.names []).map (·.1)).Nodup)
    (hb : ∀ L', XsOk h₀ prog w n (envOfC qual scope L' f cdv) body Fb) :
    ∀ loc Z H s ps vs, Sat h₀ Z env loc H s.heap → VRs Z ps vs → MOp h₀ prog w (n + 1) env loc Z H s (call (.ref f) vs) (fun Q => ps.length = names.length ∧ Fb ⟨argLoc names ps, H⟩ fun fl σ' => Q (flVal fl) σ'.H) := by
  intro loc Z H s ps vs S hv A Q Q' E rm f q
  obtain ⟨hlen, f⟩ := f
  refine wpAny_call (enter_ok H G ho hcd hco hgen hk (hbind s vs (by rw [hv.length]; exact hlen)) hkind hnn hnd (by have := rm.dp; (first | lia | omega)) S (fun a l e => ⟨l, e, rfl⟩) hv fun L' s₁ S₁ kp hL hC => ?_)
  refine hb L' (A.deeper _) Z (argLoc names ps) H s₁ _ _ _ (rm.deeper _) S₁ f fun fl p loc' Z' H' s₂ Kc vf f' => ?_
  have K := Sk.of_callee S kp Kc hL hC
  have hfl : VR Z' (flVal p) (flowVal fl) := vf.val
  change Q' (flowVal fl) s₂
  exact q _ _ _ _ _ K hfl f'
/-- a method that gives None, as a statement -/
theorem st_meth {C f : Addr} {o : Expr} {name : String} {apos p pos : Pos} {e : Expr} {rest : List Expr} {fo : ET} {F : EsT} {W : List PV → LH → (PV → LH → Prop) → Prop} {pl : Sem Bool} (G : Gr K h₀) (ho : EvOk h₀ prog w n env o fo) (hes : EsOk h₀ prog w n env (e :: rest) F)
    (hg : plainGet K C (Str.ofString name) = true) (hf : findIn K (.ref C) (Str.ofString name) = some (some (.ref f))) (ht : typeIn K (.ref f) = some (.type "function")) (hk : keepIn K (.ref f) = true)
    (hop : ∀ loc Z H s ps vs, Sat h₀ Z env loc H s.heap → VRs Z ps vs → MOp h₀ prog w n env loc Z H s (call (.ref f) vs) (W ps H))
    (hm : eval (.Call (.Attribute o (Str.ofString name) apos) (e :: rest) [] p) env = (do
      let ov ← eval o env
      standAt apos.atName
      let (f, first) ← holding [ov] (getMethod ov (Str.ofString name) pl)
      callWith p f first (backTo p (starEach (e :: rest) env)) []))
    (hs : starEach (e :: rest) env = (false, eval e env) :: starEach rest env) (hp : (backTo p (starEach rest env)).any (·.1) = false) (hi : interactive env = false) (hw : swapsWith (.Call (.Attribute o (Str.ofString name) apos) (e :: rest) [] p) none pos.line env = pure false) :
    ExOk h₀ prog w n env (.Expr (.Call (.Attribute o (Str.ofString name) apos) (e :: rest) [] p) pos)
      (fun σ Q => fo σ fun a H₁ => ∃ fs, a = .obj C fs ∧ fs.lookup name = none ∧ F ⟨σ.loc, H₁⟩ fun ps H₂ => W (a :: ps) H₂ fun r H₃ => r = .none ∧ Q .next ⟨σ.loc, H₃⟩) := by
  intro A Z loc H s Q Q' E rm S fq q
  refine wpAny_Expr (MethodCall_ (pl := pl) (ho A Z loc H s _ _ _ rm S fq fun x a Z₁ H₁ s₁ k₁ va f₁ => ?_) hm) hi hw
  obtain ⟨fs, rfl, hno, f₁⟩ := f₁
  obtain ⟨y, dx, es, kk, rfl, zx, zdx, fr⟩ := va.objInv
  have I : InstAt s₁.heap y (instObj C dx) C (some (dictOf es kk)) := ⟨k₁.sat.frz _ _ zx, rfl, rfl, k₁.sat.frz _ _ zdx⟩
  refine method_fn (f := f) (G.X.keeps k₁.sat.keep) I (plainGet_of hg).1 (plainGet_of hg).2 hf ht (by show (lookIn _ (dictOf es kk)).map _ = _; rw [lookIn_dict, fr.not hno]; rfl) ?_
  refine callWith_ok (first := [.ref y]) (kpr_K G hk) hes rm k₁.sat f₁ (fun vs ps Z₂ H₂ s₂ k₂ v f₂ => ?_) hs hp
  refine hop loc Z₂ H₂ s₂ (_ :: ps) (_ :: vs) k₂.sat (.cons (va.mono k₂.fz.1) v) A _ _ E rm f₂ fun v p Z₃ H₃ s₃ k₃ vr f₃ => ?_
  obtain ⟨rfl, f₃⟩ := f₃
  cases vr
  exact q _ _ _ _ _ _ ((k₁.trans k₂).sk.trans k₃) .next f₃
end
end Mine
end
section
namespace Mine
section
variable {h₀ : Heap} {prog : Program} {w : World} {n : Nat} {env : Env}
theorem VRs.two {Z : Zm} {p q : PV} {vs : List Value} (h : VRs Z [p, q] vs) : ∃ a b, vs = [a, b] ∧ VR Z p a ∧ VR Z q b := by
  cases h with
  | cons a r => cases r with | cons b r => cases r; exact ⟨_, _, rfl, a, b⟩
theorem VRs.three {Z : Zm} {p q r : PV} {vs : List Value} (h : VRs Z [p, q, r] vs) : ∃ a b c, vs = [a, b, c] ∧ VR Z p a ∧ VR Z q b ∧ VR Z r c := by
  cases h with
  | cons a r => cases r with | cons b r => cases r with | cons c r => cases r; exact ⟨_, _, _, rfl, a, b, c⟩
theorem Kp.ext {s : Shared} {h' : Heap} (he : Heap.ExtBut s.heap.objs.size s.heap h') : Kp s { s with heap := h' } :=
  ⟨h', s.toks, rfl, fun b o e => he b o (Nat.ne_of_lt (Heap.lt_size e)) e⟩
theorem as_tuple2 {t u : Expr} {k} {pos : Pos} {fa fb : PV → St → (St → Prop) → Prop} (ha : AsOk h₀ prog w env t fa) (hb : AsOk h₀ prog w env u fb)
    (h1 : (assignEach [t, u] env).map (·.2) = [assign t env, assign u env]) (h2 : (assignEach [t, u] env).findIdx? (·.1) = none) :
    AsOk h₀ prog w env (.Tuple [t, u] k pos) (fun p σ Q => ∃ a b, p = .tup [a, b] ∧ fa a σ fun σ₁ => fb b σ₁ Q) := by
  rintro A Z loc H s p v Q Q' E hh S hv ⟨a, b, rfl, f⟩ q
  cases hv with
  | tup z r =>
    cases r with
    | cons va r =>
      cases r with
      | cons vb r =>
        cases r
        have hl : (assignEach [t, u] env).length = 2 := by have := congrArg List.length h1; simpa using this
        refine wpAny_assign_Tuple hh ⟨_, S.frz _ _ z, rfl, _, rfl⟩ (by rw [hl]; rfl) h2 fun h' he => ?_
        rw [h1]
        have k := Ke.keep S (Kp.ext he)
        refine wpAny_assignInOrder_more (ha A Z loc H _ a _ _ _ _ hh k.sat va f fun loc₁ Z₁ H₁ s₁ k₁ f₁ => ?_)
        refine wpAny_assignInOrder_more (hb A Z₁ loc₁ H₁ _ b _ _ _ _ hh k₁.sat (vb.mono k₁.fz.1) f₁ fun loc₂ Z₂ H₂ s₂ k₂ f₂ => ?_)
        exact wpAny_assignInOrder_none (q _ _ _ _ (k.sk.trans (k₁.trans k₂)) f₂)
theorem as_tuple3 {t u x : Expr} {k} {pos : Pos} {fa fb fc : PV → St → (St → Prop) → Prop} (ha : AsOk h₀ prog w env t fa) (hb : AsOk h₀ prog w env u fb) (hc : AsOk h₀ prog w env x fc)
    (h1 : (assignEach [t, u, x] env).map (·.2) = [assign t env, assign u env, assign x env]) (h2 : (assignEach [t, u, x] env).findIdx? (·.1) = none) :
    AsOk h₀ prog w env (.Tuple [t, u, x] k pos) (fun p σ Q => ∃ a b c, p = .tup [a, b, c] ∧ fa a σ fun σ₁ => fb b σ₁ fun σ₂ => fc c σ₂ Q) := by
  rintro A Z loc H s p v Q Q' E hh S hv ⟨a, b, c, rfl, f⟩ q
  cases hv with
  | tup z r =>
    cases r with
    | cons va r =>
      cases r with
      | cons vb r =>
        cases r with
        | cons vc r =>
          cases r
          have hl : (assignEach [t, u, x] env).length = 3 := by have := congrArg List.length h1; simpa using this
          refine wpAny_assign_Tuple hh ⟨_, S.frz _ _ z, rfl, _, rfl⟩ (by rw [hl]; rfl) h2 fun h' he => ?_
          rw [h1]
          have k := Ke.keep S (Kp.ext he)
          refine wpAny_assignInOrder_more (ha A Z loc H _ a _ _ _ _ hh k.sat va f fun loc₁ Z₁ H₁ s₁ k₁ f₁ => ?_)
          refine wpAny_assignInOrder_more (hb A Z₁ loc₁ H₁ _ b _ _ _ _ hh k₁.sat (vb.mono k₁.fz.1) f₁ fun loc₂ Z₂ H₂ s₂ k₂ f₂ => ?_)
          refine wpAny_assignInOrder_more (hc A Z₂ loc₂ H₂ _ c _ _ _ _ hh k₂.sat ((vc.mono k₁.fz.1).mono k₂.fz.1) f₂ fun loc₃ Z₃ H₃ s₃ k₃ f₃ => ?_)
          exact wpAny_assignInOrder_none (q _ _ _ _ (k.sk.trans (k₁.trans (k₂.trans k₃))) f₃)
theorem st_assignT {elts : List Expr} {k} {tpos pos : Pos} {e : Expr} {fe : ET} {fa : PV → St → (St → Prop) → Prop} (he : EvOk h₀ prog w n env e fe) (ha : AsOk h₀ prog w env (.Tuple elts k tpos) fa)
    (hs : swapsWithSole [.Tuple elts k tpos] e pos.line env = pure false) (hw : swappedStores [.Tuple elts k tpos] e env = pure none) :
    ExOk h₀ prog w n env (.Assign [.Tuple elts k tpos] e pos) (fun σ Q => fe σ fun a H₁ => fa a ⟨σ.loc, H₁⟩ fun σ₁ => Q .next σ₁) := by
  intro A Z loc H s Q Q' E rm S f q
  refine Assign_Tuple (he A Z loc H s _ _ _ rm S f fun v a Z₁ H₁ s₁ k₁ va f₁ => ?_) hs hw
  exact ha A Z₁ loc H₁ s₁ a v _ _ _ rm.hd k₁.sat va f₁ fun loc₂ Z₂ H₂ s₂ k₂ f₂ => q _ _ _ _ _ _ (k₁.sk.trans k₂) .next f₂
theorem unpack_at {A : Around} {E : Value → Shared → Prop} {s : Shared} {t : Addr} {items : Array Value} {k : Nat} {Q : List Value → Shared → Prop} (hh : A.handled = none) (ht : IsTup s.heap t items) (hk : k = items.size)
    (hQ : ∀ h', Heap.ExtBut s.heap.objs.size s.heap h' → Q items.toList { s with heap := h' }) : wpAny (model prog w) A (unpackItems (.ref t) k none) Q E s := by
  subst hk
  exact unpackItems_tuple hh ht hQ
theorem st_swap2 {elts : List Expr} {k} {tpos pos : Pos} {x y : String} {e : Expr} {fe : ET} (he : EvOk h₀ prog w n env e fe)
    (hs : swapsWithSole [.Tuple elts k tpos] e pos.line env = pure false) (hw : swappedStores [.Tuple elts k tpos] e env = pure (some [Str.ofString x, Str.ofString y])) (hx : Stores env x) (hy : Stores env y) :
    ExOk h₀ prog w n env (.Assign [.Tuple elts k tpos] e pos) (fun σ Q => fe σ fun a H₁ => ∃ p q, a = .tup [p, q] ∧ Q .next ⟨(σ.loc.set y q).set x p, H₁⟩) := by
  intro A Z loc H s Q Q' E rm S f q
  refine Assign_Tuple_swapped (he A Z loc H s _ _ _ rm S f fun v a Z₁ H₁ s₁ k₁ va f₁ => ?_) hs hw
  obtain ⟨p, p', rfl, f₁⟩ := f₁
  cases va with
  | tup z r =>
        rename_i t0 vs0 n0
        obtain ⟨v1, v2, rfl, va, vb⟩ := r.two
        have hT : IsTup s₁.heap t0 #[v1, v2] := ⟨_, k₁.sat.frz _ _ z, rfl, _, rfl⟩
        refine unpack_at (k := 2) rm.hd hT rfl fun h' he => ?_
        have k := Ke.keep k₁.sat (Kp.ext he)
        refine wpAny_assignInOrder_more (wpAny_bindName (store_ok k.sat vb hy fun s₂ k₂ => ?_))
        refine wpAny_assignInOrder_more (wpAny_bindName (store_ok k₂.sat va hx fun s₃ k₃ => ?_))
        exact wpAny_assignInOrder_none (q _ _ _ _ _ _ ((k₁.trans k).sk.trans (k₂.trans k₃)) .next f₁)
theorem st_swap3 {elts : List Expr} {k} {tpos pos : Pos} {x y u : String} {e : Expr} {fe : ET} (he : EvOk h₀ prog w n env e fe)
    (hs : swapsWithSole [.Tuple elts k tpos] e pos.line env = pure false) (hw : swappedStores [.Tuple elts k tpos] e env = pure (some [Str.ofString x, Str.ofString y, Str.ofString u])) (hx : Stores env x) (hy : Stores env y) (hu : Stores env u) :
    ExOk h₀ prog w n env (.Assign [.Tuple elts k tpos] e pos) (fun σ Q => fe σ fun a H₁ => ∃ p q r, a = .tup [p, q, r] ∧ Q .next ⟨((σ.loc.set u r).set y q).set x p, H₁⟩) := by
  intro A Z loc H s Q Q' E rm S f q
  refine Assign_Tuple_swapped (he A Z loc H s _ _ _ rm S f fun v a Z₁ H₁ s₁ k₁ va f₁ => ?_) hs hw
  obtain ⟨p, p', p'', rfl, f₁⟩ := f₁
  cases va with
  | tup z r =>
          rename_i t0 vs0 n0
          obtain ⟨v1, v2, v3, rfl, va, vb, vc⟩ := r.three
          have hT : IsTup s₁.heap t0 #[v1, v2, v3] := ⟨_, k₁.sat.frz _ _ z, rfl, _, rfl⟩
          refine unpack_at (k := 3) rm.hd hT rfl fun h' he => ?_
          have k := Ke.keep k₁.sat (Kp.ext he)
          refine wpAny_assignInOrder_more (wpAny_bindName (store_ok k.sat vc hu fun s₂ k₂ => ?_))
          refine wpAny_assignInOrder_more (wpAny_bindName (store_ok k₂.sat vb hy fun s₃ k₃ => ?_))
          refine wpAny_assignInOrder_more (wpAny_bindName (store_ok k₃.sat va hx fun s₄ k₄ => ?_))
          exact wpAny_assignInOrder_none (q _ _ _ _ _ _ ((k₁.trans k).sk.trans (k₂.trans (k₃.trans k₄))) .next f₁)
end
end Mine
end
section
namespace Mine
section
variable {K : Frag} {h₀ : Heap} {prog : Program} {w : World} {n : Nat} {env : Env}
theorem ev_len {p pos : Pos} {e : Expr} {rest : List Expr} {F : EsT} (G : Gr K h₀) (h1 : nsIn K mainGlobals (Str.ofString "len") = some none) (h2 : env.kindOf (Str.ofString "len") = some .globalImplicit) (h3 : env.globals = mainGlobals) (h4 : env.builtins = builtinsNs) (hes : EsOk h₀ prog w n env (e :: rest) F)
    (h5 : starEach (e :: rest) env = (false, eval e env) :: starEach rest env) (h6 : (backTo pos (starEach rest env)).any (·.1) = false)
    (h7 : eval (.Call (.Name (Str.ofString "len") p) (e :: rest) [] pos) env = (do callWith pos (← eval (.Name (Str.ofString "len") p) env) [] (backTo pos (starEach (e :: rest) env)) (backToKw pos (keywordEach [] env)))) :
    EvOk h₀ prog w n env (.Call (.Name (Str.ofString "len") p) (e :: rest) [] pos) (fun σ Q => F σ fun ps H₁ => lenOp ps H₁ Q) :=
  ev_call (fv := .builtin "len") (nm_len G h1 h2 h3 h4) (kpr_builtin _) hes len_ok h5 h6 h7
theorem ev_chr {p pos : Pos} {e : Expr} {rest : List Expr} {F : EsT} (G : Gr K h₀) (h1 : nsIn K mainGlobals (Str.ofString "chr") = some none) (h2 : env.kindOf (Str.ofString "chr") = some .globalImplicit) (h3 : env.globals = mainGlobals) (h4 : env.builtins = builtinsNs) (hes : EsOk h₀ prog w n env (e :: rest) F)
    (h5 : starEach (e :: rest) env = (false, eval e env) :: starEach rest env) (h6 : (backTo pos (starEach rest env)).any (·.1) = false)
    (h7 : eval (.Call (.Name (Str.ofString "chr") p) (e :: rest) [] pos) env = (do callWith pos (← eval (.Name (Str.ofString "chr") p) env) [] (backTo pos (starEach (e :: rest) env)) (backToKw pos (keywordEach [] env)))) :
    EvOk h₀ prog w n env (.Call (.Name (Str.ofString "chr") p) (e :: rest) [] pos) (fun σ Q => F σ fun ps H₁ => chrOp ps H₁ Q) :=
  ev_call (fv := .builtin "chr") (nm_chr G h1 h2 h3 h4) (kpr_builtin _) hes chr_ok h5 h6 h7
theorem ev_range {p pos : Pos} {e : Expr} {rest : List Expr} {F : EsT} (G : Gr K h₀) (h1 : nsIn K mainGlobals (Str.ofString "range") = some none) (h2 : env.kindOf (Str.ofString "range") = some .globalImplicit) (h3 : env.globals = mainGlobals) (h4 : env.builtins = builtinsNs) (hes : EsOk h₀ prog w n env (e :: rest) F)
    (h5 : starEach (e :: rest) env = (false, eval e env) :: starEach rest env) (h6 : (backTo pos (starEach rest env)).any (·.1) = false)
    (h7 : eval (.Call (.Name (Str.ofString "range") p) (e :: rest) [] pos) env = (do callWith pos (← eval (.Name (Str.ofString "range") p) env) [] (backTo pos (starEach (e :: rest) env)) (backToKw pos (keywordEach [] env)))) :
    EvOk h₀ prog w n env (.Call (.Name (Str.ofString "range") p) (e :: rest) [] pos) (fun σ Q => F σ fun ps H₁ => rangeOp ps H₁ Q) :=
  ev_call (fv := .type "range") (nm_range G h1 h2 h3 h4) (kpr_type _) hes range_ok h5 h6 h7
theorem ev_count {o e : Expr} {apos pos : Pos} {rest : List Expr} {fo : ET} {F : EsT} (pl : Sem Bool) (ho : EvOk h₀ prog w n env o fo) (hes : EsOk h₀ prog w n env (e :: rest) F)
    (he : eval (.Call (.Attribute o (Str.ofString "count") apos) (e :: rest) [] pos) env = (do
      let ov ← eval o env
      standAt apos.atName
      let (f, first) ← holding [ov] (getMethod ov (Str.ofString "count") pl)
      callWith pos f first (backTo pos (starEach (e :: rest) env)) []))
    (hs : starEach (e :: rest) env = (false, eval e env) :: starEach rest env) (hp : (backTo pos (starEach rest env)).any (·.1) = false) :
    EvOk h₀ prog w n env (.Call (.Attribute o (Str.ofString "count") apos) (e :: rest) [] pos) (fun σ Q => fo σ fun a H₁ => ∃ x, a = .str x ∧ F ⟨σ.loc, H₁⟩ fun ps H₂ => countW x ps H₂ Q) :=
  ev_smeth (id := "str.count") (W := countW) pl (fun _ _ _ _ _ _ h => GM.count h) count_ok ho hes he hs hp
theorem ev_split {o e : Expr} {apos pos : Pos} {rest : List Expr} {fo : ET} {F : EsT} (pl : Sem Bool) (ho : EvOk h₀ prog w n env o fo) (hes : EsOk h₀ prog w n env (e :: rest) F)
    (he : eval (.Call (.Attribute o (Str.ofString "split") apos) (e :: rest) [] pos) env = (do
      let ov ← eval o env
      standAt apos.atName
      let (f, first) ← holding [ov] (getMethod ov (Str.ofString "split") pl)
      callWith pos f first (backTo pos (starEach (e :: rest) env)) []))
    (hs : starEach (e :: rest) env = (false, eval e env) :: starEach rest env) (hp : (backTo pos (starEach rest env)).any (·.1) = false) :
    EvOk h₀ prog w n env (.Call (.Attribute o (Str.ofString "split") apos) (e :: rest) [] pos) (fun σ Q => fo σ fun a H₁ => ∃ x, a = .str x ∧ F ⟨σ.loc, H₁⟩ fun ps H₂ => splitW x ps H₂ Q) :=
  ev_smeth (id := "str.split") (W := splitW) pl (fun _ _ _ _ _ _ h => GM.split h) split_ok ho hes he hs hp
end
end Mine
end
section
namespace Mine
mutual
/-- data that may be compared, n deep at most -/
inductive Gd (H : LH) : Nat → PV → Prop
  | none (n : Nat) : Gd H n .none
  | bool (n : Nat) (b : Bool) : Gd H n (.bool b)
  | int (n : Nat) (i : Int) : Gd H n (.int i)
  | str (n : Nat) {x : Str} : PyData.strOk x = true → Gd H n (.str x)
  | tup {n : Nat} {xs : List PV} : Gds H n xs → Gd H (n + 1) (.tup xs)
  | lst {n : Nat} {xs : List PV} : Gds H n xs → Gd H (n + 1) (.lst xs)
  | ref {n : Nat} {a : Addr} {l : LO} : H a = some l → Gds H n l.xs → Gd H (n + 1) (.ref a)
inductive Gds (H : LH) : Nat → List PV → Prop
  | nil (n : Nat) : Gds H n []
  | cons {n : Nat} {x : PV} {xs : List PV} : Gd H n x → Gds H n xs → Gds H n (x :: xs)
end
mutual
theorem Gd.data {H : LH} : ∀ {n : Nat} {p : PV}, Gd H n p → ∃ d, Dt H p d ∧ d.canLay0 = true ∧ d.depth ≤ n
  | _, _, .none _ => ⟨_, .none, rfl, Nat.zero_le _⟩
  | _, _, .bool _ b => ⟨_, .bool b, rfl, Nat.zero_le _⟩
  | _, _, .int _ i => ⟨_, .int i, rfl, Nat.zero_le _⟩
  | _, _, .str _ h => ⟨_, .str _, h, Nat.zero_le _⟩
  | _, _, .tup h => let ⟨ds, a, b, c⟩ := Gds.data h; ⟨.tuple ds, .tup a, b, Nat.succ_le_succ c⟩
  | _, _, .lst h => let ⟨ds, a, b, c⟩ := Gds.data h; ⟨.list ds, .lst a, b, Nat.succ_le_succ c⟩
  | _, _, .ref e h => let ⟨ds, a, b, c⟩ := Gds.data h; ⟨.list ds, .ref e a, b, Nat.succ_le_succ c⟩
theorem Gds.data {H : LH} : ∀ {n : Nat} {p : List PV}, Gds H n p → ∃ d, Dts H p d ∧ PyData.canLayAll0 d = true ∧ PyData.depthAll d ≤ n
  | _, _, .nil _ => ⟨_, .nil, rfl, Nat.zero_le _⟩
  | _, _, .cons x r => by
    obtain ⟨d, a, b, c⟩ := Gd.data x
    obtain ⟨ds, a', b', c'⟩ := Gds.data r
    refine ⟨d :: ds, .cons a a', ?_, ?_⟩
    · simp only [PyData.canLayAll0, b, b', Bool.and_self]
    · simp only [PyData.depthAll]; (first | lia | omega)
end
theorem Gds.of {H : LH} {n : Nat} : ∀ {xs : List PV}, (∀ p ∈ xs, Gd H n p) → Gds H n xs
  | [], _ => .nil n
  | _ :: _, h => .cons (h _ List.mem_cons_self) (Gds.of fun p hp => h p (List.mem_cons_of_mem _ hp))
theorem shaped_of {d : PyData} {n : Nat} (hn : n ≤ 64) (h : d.canLay0 = true) (hd : d.depth ≤ n) : SeqAt.shaped d = true := by
  unfold SeqAt.shaped
  rw [h, Bool.true_and, decide_eq_true_eq]; (first | lia | omega)
theorem strOk_mk {l : List Nat} (h : ∀ c ∈ l, c < 128) : PyData.strOk (mkS l) = true := by
  unfold PyData.strOk mkS
  simp only [List.all_toArray, List.all_eq_true, decide_eq_true_eq]
  intro c hc
  have := h c hc
  (first | lia | omega)
end Mine
end
section
namespace Mine
section
variable {h₀ : Heap} {prog : Program} {w : World} {n : Nat} {env : Env}
/-- a statement may be had by what is said of it -/
theorem ExOk.mono {st : Stmt} {F F' : XT} (h : ExOk h₀ prog w n env st F) (hm : ∀ σ Q, F' σ Q → F σ Q) : ExOk h₀ prog w n env st F' :=
  fun A Z loc H s Q Q' E rm S f q => h A Z loc H s Q Q' E rm S (hm _ Q f) q
theorem XsOk.mono {st : List Stmt} {F F' : XT} (h : XsOk h₀ prog w n env st F) (hm : ∀ σ Q, F' σ Q → F σ Q) : XsOk h₀ prog w n env st F' :=
  fun A Z loc H s Q Q' E rm S f q => h A Z loc H s Q Q' E rm S (hm _ Q f) q
end
/-- all names but these are as they were -/
noncomputable def SameBut (ys : List String) (σ σ' : St) : Prop := σ'.H = σ.H ∧ ∀ y, y ∉ ys → σ'.loc y = σ.loc y
theorem SameBut.get {ys : List String} {σ σ' : St} (h : SameBut ys σ σ') {y : String} {p : PV} (hy : y ∉ ys) (e : σ.loc y = some p) : σ'.loc y = some p := (h.2 y hy).trans e
theorem SameBut.refl (ys : List String) (σ : St) : SameBut ys σ σ := ⟨rfl, fun _ _ => rfl⟩
theorem SameBut.trans {ys : List String} {σ σ₁ σ₂ : St} (a : SameBut ys σ σ₁) (b : SameBut ys σ₁ σ₂) : SameBut ys σ σ₂ := ⟨b.1.trans a.1, fun y hy => (b.2 y hy).trans (a.2 y hy)⟩
theorem SameBut.set {ys : List String} {σ : St} {l : Loc} {H : LH} {x : String} {p : PV} (h : SameBut ys σ ⟨l, H⟩) (hx : x ∈ ys) : SameBut ys σ ⟨l.set x p, H⟩ :=
  ⟨h.1, fun y hy => by
    show (l.set x p) y = _
    have hne : y ≠ x := fun e => hy (by rw [e]; exact hx)
    rw [Loc.set_ne _ _ hne]
    exact h.2 y hy⟩
end Mine
end
section
namespace Mine
theorem VRs.rep {Z : Zm} {xs : List PV} {vs : List Value} (h : VRs Z xs vs) : ∀ k : Nat, VRs Z (List.replicate k xs).flatten (List.replicate k vs).flatten
  | 0 => .nil
  | k + 1 => by
    rw [List.replicate_succ, List.replicate_succ, List.flatten_cons, List.flatten_cons]
    exact h.append (VRs.rep h k)
section
variable {h₀ : Heap} {prog : Program} {w : World} {n : Nat} {env : Env}
/-- l * k -/
noncomputable def lmulW (a b : PV) (H : LH) (Q : PV → LH → Prop) : Prop := ∃ xs j, lstOf H a = some xs ∧ b = .int j ∧ (-(1000000) ≤ j ∧ j ≤ 1000000) ∧ xs.length * j.toNat ≤ 1000000 ∧ listW (List.replicate j.toNat xs).flatten H Q
theorem lmul_ok (loc : Loc) (Z : Zm) (H : LH) (s : Shared) (a b : PV) (x y : Value) (S : Sat h₀ Z env loc H s.heap) (va : VR Z a x) (vb : VR Z b y) : OpOk h₀ prog w n env loc Z H s (binaryOp .Mult x y) (lmulW a b H) := by
  rintro A Q Q' E rm ⟨xs, j, hl, rfl, hj, hsz, f⟩ q
  obtain ⟨l, vs, k, rfl, ho, r⟩ := lst_at S va hl
  cases vb with
  | int _ u =>
    have hsz' : vs.toArray.size * j.toNat ≤ 1000000 := by rw [List.size_toArray, r.length]; exact hsz
    refine wpAny_binaryOp_repeat_ref (T := "list") (U := "int") (by decide) ⟨_, ho, rfl⟩ (fun s' => typeIs_int s' j u) noFill_list_mul F.fills_int_mul F.slot_int_rmul repeat_list F.slot_int_index.lookup
      (call_meets F.slot_int_rmul (typeIs_int s j u) F.entry_int_rmul (F.args_int_rmul_2 _ _) (lm_int_rmul_list_any j u l vs.toArray k none #[])
        ⟨ho, rfl, ⟨_, ho, rfl⟩, call_meets F.slot_list_mul ⟨_, ho, rfl⟩ F.entry_list_mul (F.args_list_mul_2 _ _)
          (lm_list_mul_any l vs.toArray k none #[] j u (by simp [Builtin.List.listFitsIndex]; (first | lia | omega)) (by (first | lia | omega)) (by rw [List.size_toArray, r.length]; simp [Builtin.List.listTooLong, sizeLine_eq]; (first | lia | omega)))
          ⟨ho, ?_⟩⟩)
    refine list_new S f q (Kp.push _ _) (get_size _) (vs := (List.replicate j.toNat vs).flatten) (k := 0) ?_ (r.rep _)
    rw [Heap.get?_push_size _ rfl, listMul_foldl_if]
theorem ev_lmul {l r : Expr} {pos : Pos} {fl fr : ET} (hl : EvOk h₀ prog w n env l fl) (hr : EvOk h₀ prog w n env r fr) :
    EvOk h₀ prog w n env (.BinOp l .Mult r pos) (fun σ Q => fl σ fun a H₁ => fr ⟨σ.loc, H₁⟩ fun b H₂ => lmulW a b H₂ Q) := ev_bin hl hr lmul_ok
/-- l.extend(..) -/
theorem st_extend {o e : Expr} {apos p pos : Pos} {fo fe : ET} {pl : Sem Bool} (ho : EvOk h₀ prog w n env o fo) (he : EvOk h₀ prog w n env e fe)
    (hm : eval (.Call (.Attribute o (Str.ofString "extend") apos) [e] [] p) env = (do
      let ov ← eval o env
      standAt apos.atName
      let (f, first) ← holding [ov] (getMethod ov (Str.ofString "extend") pl)
      callWith p f first (backTo p (starEach [e] env)) []))
    (hs : starEach [e] env = (false, eval e env) :: starEach [] env) (hi : interactive env = false) (hw : swapsWith (.Call (.Attribute o (Str.ofString "extend") apos) [e] [] p) none pos.line env = pure false) :
    ExOk h₀ prog w n env (.Expr (.Call (.Attribute o (Str.ofString "extend") apos) [e] [] p) pos)
      (fun σ Q => fo σ fun a H₁ => ∃ l z, a = .ref l ∧ H₁ l = some z ∧ fe ⟨σ.loc, H₁⟩ fun b H₂ => ∃ xs ys, H₂ l = some ⟨true, xs⟩ ∧ b = .lst ys ∧ xs.length + ys.length ≤ 1000000 ∧ Q .next ⟨σ.loc, H₂.set l ⟨true, xs ++ ys⟩⟩) := by
  intro A Z loc H s Q Q' E rm S f q
  refine wpAny_Expr (MethodCall_ (pl := pl) (ho A Z loc H s _ _ _ rm S f fun x a Z₁ H₁ s₁ k₁ va f₁ => ?_) hm) hi hw
  obtain ⟨l, z, rfl, hz, f₁⟩ := f₁
  cases va with
  | ref _ =>
    obtain ⟨_, vs, k, eo, _⟩ := k₁.sat.obj l z hz
    refine getMethod_builtin ⟨_, eo, rfl⟩ PySem.F.plainAttrs_list PySem.F.slot_list_extend PySem.F.type_list_extend (fun a e => by cases e; exact ⟨_, eo, rfl⟩) ?_
    have hes : EsOk h₀ prog w n env [e] (fun σ Q => fe σ fun a H₁ => Q [a] H₁) := by
      intro A Z loc H s pos Q Q' E rm S f q
      exact (es_cons (fr := fun σ Q => Q [] σ.H) he es_nil hs) A Z loc H s pos Q Q' E rm S f q
    refine callWith_ok (Q := fun ps H₂ => match ps with | [b] => ∃ xs ys, H₂ l = some ⟨true, xs⟩ ∧ b = .lst ys ∧ xs.length + ys.length ≤ 1000000 ∧ Q .next ⟨loc, H₂.set l ⟨true, xs ++ ys⟩⟩ | _ => False) (kpr_builtin _) hes rm k₁.sat f₁ (fun us ps Z₂ H₂ s₂ k₂ vu f₂ => ?_) hs rfl
    cases vu with
    | nil => exact f₂.elim
    | cons vb r =>
      cases r with
      | cons _ _ => exact f₂.elim
      | nil =>
      obtain ⟨xs, ys, hx, rfl, hsz, f₂⟩ := f₂
      obtain ⟨z₂, ws, k', eo₂, rr⟩ := k₂.sat.obj l _ hx
      cases vb with
      | lst zb rb =>
        rename_i b us kb
        have eb := k₂.sat.frz _ _ zb
        have l1 : ws.length = xs.length := rr.length
        have l2 := rb.length
        refine call_meets PySem.F.slot_list_extend ⟨_, eo₂, rfl⟩ PySem.F.entry_list_extend (PySem.F.args_list_extend_2 _ _)
          (AutoSeq1.list_extend_list_list_0 l ws.toArray k' b us.toArray kb (by simp [Builtin.List.listTooLong, sizeLine_eq]; (first | lia | omega)) (by rw [List.size_toArray, sizeLine_eq]; (first | lia | omega)) (by rw [List.size_toArray, List.size_toArray, sizeLine_eq]; (first | lia | omega))) ⟨eo₂, eb, ?_⟩
        obtain ⟨k3, e'⟩ : ∃ k3, (s₂.heap.update l (Obj.mapSeq fun x => x ++ us.toArray)).get? l = some { cls := .type "list", data := .seq (ws ++ us).toArray k3 } := by
          have hh := Heap.get?_update_self (Obj.mapSeq fun x => x ++ us.toArray) eo₂ rfl
          rw [hh]
          exact ⟨_, by simp only [Obj.mapSeq, List.append_toArray]; rfl⟩
        have K := Sk.setList (tk := s₂.toks) k₂.sat hx (Heap.SameBut.update ..) e' (rr.append rb)
        exact q _ _ _ _ _ _ ((k₁.trans k₂).sk.trans K) .next f₂
/-- a tuple target in a comprehension -/
theorem ac_tuple2 {t u : Expr} {k} {pos : Pos} {fa fb : PV → St → (St → Prop) → Prop} (ha : AcOk h₀ prog w env t fa) (hb : AcOk h₀ prog w env u fb)
    (h1 : (assignEach [t, u] env).map (·.2) = [assign t env, assign u env]) (h2 : (assignEach [t, u] env).findIdx? (·.1) = none) :
    AcOk h₀ prog w env (.Tuple [t, u] k pos) (fun p σ Q => ∃ a b, p = .tup [a, b] ∧ fa a σ fun σ₁ => fb b σ₁ Q) := by
  rintro A Z loc H s p v Q Q' E hh S hv ⟨a, b, rfl, f⟩ q
  cases hv with
  | tup z r =>
    rename_i t0 vs0 n0
    obtain ⟨v1, v2, rfl, va, vb⟩ := r.two
    have hl : (assignEach [t, u] env).length = 2 := by have := congrArg List.length h1; simpa using this
    refine wpAny_assign_Tuple hh ⟨_, S.frz _ _ z, rfl, _, rfl⟩ (by rw [hl]; rfl) h2 fun h' he => ?_
    rw [h1]
    have kk := Ke.keep S (Kp.ext he)
    refine wpAny_assignInOrder_more (ha A Z loc H _ a _ _ _ _ hh kk.sat va f fun loc₁ s₁ k₁ f₁ => ?_)
    refine wpAny_assignInOrder_more (hb A Z loc₁ H _ b _ _ _ _ hh k₁.sat vb f₁ fun loc₂ s₂ k₂ f₂ => ?_)
    refine wpAny_assignInOrder_none (q _ _ ?_ f₂)
    have k0 : Sa h₀ env loc Z H s { s with heap := h' } := ⟨kk.sat, ⟨h', s.toks, rfl⟩, fun b o _ e => kk.kp.get e⟩
    exact k0.trans (k₁.trans k₂)
end
end Mine
end
section
namespace Mine
/-- a zip as it stands -/
abbrev IsZp (h : Heap) (z TI TO : Addr) (f0 f1 : Value) : Prop :=
  h.get? z = some { cls := .type "zip", dict := none, data := .fields #[f0, f1, .bool false, .ref TI, .ref TO], slots := #[] }
section
variable {prog : Program} {w : World} {A : Around} {E : Value → Shared → Prop} {s : Shared}
theorem wpAny_lia {M : Model} {A : Around} {E : Value → Shared → Prop} {s : Shared} {a : Addr} {Q : Option Obj → Shared → Prop} (h : Q (s.heap.get? a) s) : wpAny M A (loadIfAlive a) Q E s := by
  intro Γ p hΓ
  unfold loadIfAlive
  rw [Sem.wp_loadIfAlive]
  exact wpAny_pure (M := M) (A := A) (E := E) h Γ p hΓ
/-- a pair is drawn, the zip's own tuple is in use -/
theorem zip_B {z TI TO i1 i2 T n1 n2 i : Nat} {f1 : Bool} {oT : Obj} {fp1 fp2 : List Addr} {P1 P2 : Nat → Value → Prop} {St1 St2 : Nat → Heap → Prop} {Q : Value → Shared → Prop}
    (D1 : Draws prog w A i1 fp1 n1 P1 St1) (D2 : Draws prog w A i2 fp2 n2 P2 St2) (hz : IsZp s.heap z TI TO (rawInt T) (.bool f1)) (hTI : IsPair s.heap TI (.ref i1) (.ref i2)) (hT : s.heap.get? T = some oT)
    (h1 : St1 i s.heap) (h2 : St2 i s.heap) (l1 : i < n1) (l2 : i < n2) (z1 : z ≠ i1) (z2 : z ≠ i2) (zf1 : z ∉ fp1) (zf2 : z ∉ fp2) (i12 : i1 ∉ fp2) (i21 : i2 ∉ fp1) (TI1 : TI ≠ z)
    (hQ : ∀ x y h' tk, P1 i x → P2 i y → IsZp h' z TI TO (rawInt T) (.bool true) → St1 (i + 1) h' → St2 (i + 1) h' → h'.get? s.heap.objs.size = some { cls := .type "tuple", data := .seq #[x, y] } → h'.objs.size = s.heap.objs.size + 1 →
      (∀ c o, c ≠ z → c ≠ i1 → c ≠ i2 → s.heap.get? c = some o → h'.get? c = some o) → Q (.ref s.heap.objs.size) { s with heap := h', toks := tk }) :
    wpAny (model prog w) A (Builtin.«zip.__next__» ⟨[.ref z], []⟩) (fun fin s' => ∃ v, fin = .done (.ret v) ∧ Q v s') E s := by
  obtain ⟨hp, g, d, tk₀, os⟩ := s
  show wpAny _ _ (field (.ref z) 2 >>= _) _ _ _
  refine wpAny_bind (wpAny_field hz rfl (x := .bool false) rfl ?_)
  show wpAny _ _ (field (.ref z) 3 >>= _) _ _ _
  refine wpAny_bind (wpAny_field hz rfl (x := .ref TI) rfl ?_)
  refine wpAny_bind (wpAny_seqItems hTI rfl ?_)
  show wpAny _ _ (Builtin.SmallTypes.ownedTupleIsFree (.ref z) >>= _) _ _ _
  refine wpAny_bind (wpAny_mono (Q := fun b s' => b = false ∧ ∃ h₁, s' = ⟨h₁, g, d, tk₀, os⟩ ∧ IsZp h₁ z TI TO (rawInt T) (.bool true) ∧ St1 i h₁ ∧ St2 i h₁ ∧ h₁.objs.size = hp.objs.size ∧ ∀ c o, c ≠ z → hp.get? c = some o → h₁.get? c = some o) ?m ?k fun _ _ z => z)
  case m =>
    unfold Builtin.SmallTypes.ownedTupleIsFree
    refine wpAny_bind (wpAny_field hz rfl (x := rawInt T) rfl ?_)
    show wpAny _ _ (loadIfAlive T >>= _) _ _ _
    refine wpAny_bind (wpAny_lia ?_)
    rw [show (Shared.heap ⟨hp, g, d, tk₀, os⟩).get? T = some oT from hT]
    show wpAny _ _ (field (.ref z) 1 >>= _) _ _ _
    refine wpAny_bind (wpAny_field hz rfl (x := .bool f1) rfl ?_)
    cases f1 with
    | true =>
      show wpAny _ _ (pure false) _ _ _
      exact wpAny_pure ⟨rfl, hp, rfl, hz, h1, h2, rfl, fun _ _ _ e => e⟩
    | false =>
      show wpAny _ _ (setField (.ref z) 1 (.bool true) >>= _) _ _ _
      refine wpAny_bind (wpAny_setField_rec hz (by simp) fun h₁ hz₁ hs₁ => wpAny_pure ⟨rfl, h₁, rfl, hz₁, ?_, ?_, hs₁.1, fun c o hc e => hs₁.extBut c o hc e⟩)
      · exact D1.frame _ _ _ h1 fun b hb o e => hs₁.extBut b o (fun q => zf1 (q ▸ hb)) e
      · exact D2.frame _ _ _ h2 fun b hb o e => hs₁.extBut b o (fun q => zf2 (q ▸ hb)) e
  case k =>
    rintro b s' ⟨rfl, h₁, rfl, hz₁, s1, s2, hsz, hk⟩
    simp only [Bool.false_eq_true, if_false]
    refine wpAny_bind ?_
    simp only [List.forIn_toArray, List.forIn_cons, List.forIn_nil]
    refine wpAny_bind (wpAny_bind (wpAny_holding ?_))
    show wpAny _ _ (Builtin.SmallTypes.nextOf (.ref i1) >>= _) _ _ _
    refine wpAny_bind (D1.item i _ _ _ l1 s1 fun x h₂ tk₂ p1 s1₂ hs₂ => wpAny_pure ?_)
    have s2₂ : St2 i h₂ := D2.frame _ _ _ s2 fun b hb o e => hs₂.extBut b o (fun q => i12 (q ▸ hb)) e
    refine wpAny_pure ?_
    show wpAny _ _ (_ >>= _) _ _ _
    refine wpAny_bind (wpAny_bind (wpAny_holding ?_))
    show wpAny _ _ (Builtin.SmallTypes.nextOf (.ref i2) >>= _) _ _ _
    refine wpAny_bind (D2.item i _ _ _ l2 s2₂ fun y h₃ tk₃ p2 s2₃ hs₃ => wpAny_pure ?_)
    have s1₃ : St1 (i + 1) h₃ := D1.frame _ _ _ s1₂ fun b hb o e => hs₃.extBut b o (fun q => i21 (q ▸ hb)) e
    refine wpAny_pure ?_
    refine wpAny_pure ?_
    show wpAny _ _ (newTuple [x, y] >>= _) _ _ _
    have hsz3 : h₃.objs.size = hp.objs.size := by rw [hs₃.1, hs₂.1]; exact hsz
    refine wpAny_bind (wpAny_newTuple ?_)
    show wpAny _ _ (ret _) _ _ _
    have up : ∀ c o, c ≠ z → c ≠ i1 → c ≠ i2 → hp.get? c = some o → (h₃.push { cls := .type "tuple", data := .seq #[x, y] }).get? c = some o := fun c o c1 c2 c3 e =>
      Heap.get?_push_of_some _ (hs₃.extBut c o c3 (hs₂.extBut c o c2 (hk c o c1 e)))
    refine wpAny_pure ⟨_, rfl, ?_⟩
    show Q (.ref h₃.objs.size) _
    rw [hsz3]
    refine hQ x y _ tk₃ p1 p2 ?_ ?_ ?_ ?_ ?_ up
    · exact Heap.get?_push_of_some _ (hs₃.extBut z _ z2 (hs₂.extBut z _ z1 hz₁))
    · exact D1.frame _ _ _ s1₃ fun b _ o e => Heap.get?_push_of_some _ e
    · exact D2.frame _ _ _ s2₃ fun b _ o e => Heap.get?_push_of_some _ e
    · rw [← hsz3]; exact Heap.get?_push_size _ rfl
    · rw [Heap.size_push, hsz3]
/-- the first pair -/
theorem zip_A {z TI TO i1 i2 n1 n2 i : Nat} {a b : Value} {fp1 fp2 : List Addr} {P1 P2 : Nat → Value → Prop} {St1 St2 : Nat → Heap → Prop} {Q : Value → Shared → Prop}
    (D1 : Draws prog w A i1 fp1 n1 P1 St1) (D2 : Draws prog w A i2 fp2 n2 P2 St2) (hz : IsZp s.heap z TI TO .none (.bool false)) (hTI : IsPair s.heap TI (.ref i1) (.ref i2)) (hTO : IsPair s.heap TO a b)
    (h1 : St1 i s.heap) (h2 : St2 i s.heap) (l1 : i < n1) (l2 : i < n2) (z1 : z ≠ i1) (z2 : z ≠ i2) (zf1 : z ∉ fp1) (zf2 : z ∉ fp2) (i12 : i1 ∉ fp2) (i21 : i2 ∉ fp1) (tz : TO ≠ z) (t1 : TO ≠ i1) (t2 : TO ≠ i2) (tf1 : TO ∉ fp1) (tf2 : TO ∉ fp2)
    (hQ : ∀ x y h' tk, P1 i x → P2 i y → IsZp h' z TI TO (rawInt s.heap.objs.size) (.bool false) → St1 (i + 1) h' → St2 (i + 1) h' → h'.get? s.heap.objs.size = some { cls := .type "tuple", data := .seq #[x, y] } → h'.objs.size = s.heap.objs.size + 1 →
      (∀ c o, c ≠ z → c ≠ i1 → c ≠ i2 → c ≠ TO → s.heap.get? c = some o → h'.get? c = some o) → Q (.ref s.heap.objs.size) { s with heap := h', toks := tk }) :
    wpAny (model prog w) A (Builtin.«zip.__next__» ⟨[.ref z], []⟩) (fun fin s' => ∃ v, fin = .done (.ret v) ∧ Q v s') E s := by
  obtain ⟨hp, g, d, tk₀, os⟩ := s
  show wpAny _ _ (field (.ref z) 2 >>= _) _ _ _
  refine wpAny_bind (wpAny_field hz rfl (x := .bool false) rfl ?_)
  show wpAny _ _ (field (.ref z) 3 >>= _) _ _ _
  refine wpAny_bind (wpAny_field hz rfl (x := .ref TI) rfl ?_)
  refine wpAny_bind (wpAny_seqItems hTI rfl ?_)
  show wpAny _ _ (Builtin.SmallTypes.ownedTupleIsFree (.ref z) >>= _) _ _ _
  refine wpAny_bind ?_
  unfold Builtin.SmallTypes.ownedTupleIsFree
  refine wpAny_bind (wpAny_field hz rfl (x := .none) rfl (wpAny_pure ?_))
  simp only [if_true]
  refine wpAny_bind (wpAny_rule ?_)
  refine wpAny_bind (wpAny_field hz rfl (x := .ref TO) rfl ?_)
  refine wpAny_bind (wpAny_setField_rec hz (by simp) fun h₁ hz₁ hs₁ => ?_)
  replace hz₁ : IsZp h₁ z TI TO .ellipsis (.bool false) := hz₁
  replace hs₁ : Heap.SameBut z hp h₁ := hs₁
  have s1 : St1 i h₁ := D1.frame _ _ _ h1 fun b hb o e => hs₁.extBut b o (fun q => zf1 (q ▸ hb)) e
  have s2 : St2 i h₁ := D2.frame _ _ _ h2 fun b hb o e => hs₁.extBut b o (fun q => zf2 (q ▸ hb)) e
  have hTO₁ : IsPair h₁ TO a b := hs₁.extBut _ _ tz hTO
  refine wpAny_bind ?_
  simp only [List.zipIdx_cons, List.zipIdx_nil, List.forIn_cons, List.forIn_nil]
  refine wpAny_bind (wpAny_bind (wpAny_onRaise ?_))
  show wpAny _ _ (Builtin.SmallTypes.nextOf (.ref i1) >>= _) _ _ _
  refine wpAny_bind (D1.item i _ _ _ l1 s1 fun x h₂ tk₂ p1 s1₂ hs₂ => wpAny_pure ?_)
  replace hs₂ : Heap.SameBut i1 h₁ h₂ := hs₂
  have s2₂ : St2 i h₂ := D2.frame _ _ _ s2 fun b hb o e => hs₂.extBut b o (fun q => i12 (q ▸ hb)) e
  have hTO₂ : IsPair h₂ TO a b := hs₂.extBut _ _ t1 hTO₁
  refine wpAny_bind (wpAny_seqItems hTO₂ rfl ?_)
  refine wpAny_bind (wpAny_updateSeq_pair hTO₂ fun h₃ hTO₃ hs₃ => ?_)
  replace hTO₃ : IsPair h₃ TO x b := hTO₃
  replace hs₃ : Heap.SameBut TO h₂ h₃ := hs₃
  have s1₃ : St1 (i + 1) h₃ := D1.frame _ _ _ s1₂ fun b hb o e => hs₃.extBut b o (fun q => tf1 (q ▸ hb)) e
  have s2₃ : St2 i h₃ := D2.frame _ _ _ s2₂ fun b hb o e => hs₃.extBut b o (fun q => tf2 (q ▸ hb)) e
  refine wpAny_bind (wpAny_letGo (wpAny_pure ?_))
  refine wpAny_bind (wpAny_bind (wpAny_onRaise ?_))
  show wpAny _ _ (Builtin.SmallTypes.nextOf (.ref i2) >>= _) _ _ _
  refine wpAny_bind (D2.item i _ _ _ l2 s2₃ fun y h₄ tk₄ p2 s2₄ hs₄ => wpAny_pure ?_)
  replace hs₄ : Heap.SameBut i2 h₃ h₄ := hs₄
  have s1₄ : St1 (i + 1) h₄ := D1.frame _ _ _ s1₃ fun b hb o e => hs₄.extBut b o (fun q => i21 (q ▸ hb)) e
  have hTO₄ : IsPair h₄ TO x b := hs₄.extBut _ _ t2 hTO₃
  refine wpAny_bind (wpAny_seqItems hTO₄ rfl ?_)
  refine wpAny_bind (wpAny_updateSeq_pair hTO₄ fun h₅ hTO₅ hs₅ => ?_)
  replace hTO₅ : IsPair h₅ TO x y := hTO₅
  replace hs₅ : Heap.SameBut TO h₄ h₅ := hs₅
  have s1₅ : St1 (i + 1) h₅ := D1.frame _ _ _ s1₄ fun b hb o e => hs₅.extBut b o (fun q => tf1 (q ▸ hb)) e
  have s2₅ : St2 (i + 1) h₅ := D2.frame _ _ _ s2₄ fun b hb o e => hs₅.extBut b o (fun q => tf2 (q ▸ hb)) e
  refine wpAny_bind (wpAny_letGo (wpAny_pure (wpAny_pure ?_)))
  refine wpAny_bind (wpAny_seqItems hTO₅ rfl ?_)
  refine wpAny_bind (wpAny_newTuple ?_)
  have hsz : h₅.objs.size = hp.objs.size := by rw [hs₅.1, hs₄.1, hs₃.1, hs₂.1, hs₁.1]
  have hz₅ : IsZp h₅ z TI TO .ellipsis (.bool false) := hs₅.extBut _ _ tz.symm (hs₄.extBut _ _ z2 (hs₃.extBut _ _ tz.symm (hs₂.extBut _ _ z1 hz₁)))
  have hk₅ : ∀ c o, c ≠ z → c ≠ i1 → c ≠ i2 → c ≠ TO → hp.get? c = some o → h₅.get? c = some o := fun c o c1 c2 c3 c4 e =>
    hs₅.extBut _ _ c4 (hs₄.extBut _ _ c3 (hs₃.extBut _ _ c4 (hs₂.extBut _ _ c2 (hs₁.extBut _ _ c1 e))))
  have hzlt : z < h₅.objs.size := Heap.lt_size hz₅
  show wpAny _ _ (Builtin.SmallTypes.ownedTupleHandOut (.ref z) (.ref h₅.objs.size) >>= _) _ _ _
  refine wpAny_bind ?_
  unfold Builtin.SmallTypes.ownedTupleHandOut
  have hz₆ : IsZp (h₅.push { cls := .type "tuple", data := .seq #[x, y] }) z TI TO .ellipsis (.bool false) := Heap.get?_push_of_some _ hz₅
  refine wpAny_bind (wpAny_setField_rec hz₆ (by simp) fun h₇ hz₇ hs₇ => ?_)
  replace hz₇ : IsZp h₇ z TI TO (rawInt h₅.objs.size) (.bool false) := hz₇
  refine wpAny_setField_rec hz₇ (by simp) fun h₈ hz₈ hs₈ => ?_
  replace hz₈ : IsZp h₈ z TI TO (rawInt h₅.objs.size) (.bool false) := hz₈
  have up : ∀ c o, c ≠ z → h₅.get? c = some o → h₈.get? c = some o := fun c o c1 e => hs₈.extBut _ _ c1 (hs₇.extBut _ _ c1 (Heap.get?_push_of_some _ e))
  have hT₈ : h₈.get? h₅.objs.size = some { cls := .type "tuple", data := .seq #[x, y] } := hs₈.extBut _ _ (Nat.ne_of_gt hzlt) (hs₇.extBut _ _ (Nat.ne_of_gt hzlt) (Heap.get?_push_size _ rfl))
  have hz8 : h₈.objs.size = h₅.objs.size + 1 := by rw [hs₈.1, hs₇.1, Heap.size_push]
  rw [hsz] at hz₈ hT₈ hz8
  refine wpAny_pure ⟨_, rfl, ?_⟩
  show Q (.ref h₅.objs.size) _
  rw [hsz]
  exact hQ x y h₈ tk₄ p1 p2 hz₈ (D1.frame _ _ _ s1₅ fun b hb o e => up b o (fun q => zf1 (q ▸ hb)) e) (D2.frame _ _ _ s2₅ fun b hb o e => up b o (fun q => zf2 (q ▸ hb)) e) hT₈ hz8 fun c o c1 c2 c3 c4 e => up c o c1 (hk₅ c o c1 c2 c3 c4 e)
/-- no pair is left -/
theorem zip_end {z TI TO i1 i2 T n1 : Nat} {f1 : Bool} {oT : Obj} {fp1 : List Addr} {P1 : Nat → Value → Prop} {St1 : Nat → Heap → Prop} {Q : PySem.Fin → Shared → Prop}
    (D1 : Draws prog w A i1 fp1 n1 P1 St1) (hz : IsZp s.heap z TI TO (rawInt T) (.bool f1)) (hTI : IsPair s.heap TI (.ref i1) (.ref i2)) (hT : s.heap.get? T = some oT)
    (h1 : St1 n1 s.heap) (zf1 : z ∉ fp1)
    (hE : ∀ h' e, (∀ c o, c ≠ z → c ≠ i1 → s.heap.get? c = some o → h'.get? c = some o) → (∃ o, h'.get? e = some o ∧ o.cls = .type "StopIteration") → E (.ref e) { s with heap := h' }) :
    wpAny (model prog w) A (Builtin.«zip.__next__» ⟨[.ref z], []⟩) Q E s := by
  obtain ⟨hp, g, d, tk₀, os⟩ := s
  show wpAny _ _ (field (.ref z) 2 >>= _) _ _ _
  refine wpAny_bind (wpAny_field hz rfl (x := .bool false) rfl ?_)
  show wpAny _ _ (field (.ref z) 3 >>= _) _ _ _
  refine wpAny_bind (wpAny_field hz rfl (x := .ref TI) rfl ?_)
  refine wpAny_bind (wpAny_seqItems hTI rfl ?_)
  show wpAny _ _ (Builtin.SmallTypes.ownedTupleIsFree (.ref z) >>= _) _ _ _
  refine wpAny_bind (wpAny_mono (Q := fun b s' => b = false ∧ ∃ h₁, s' = ⟨h₁, g, d, tk₀, os⟩ ∧ St1 n1 h₁ ∧ ∀ c o, c ≠ z → hp.get? c = some o → h₁.get? c = some o) ?m ?k fun _ _ z => z)
  case m =>
    unfold Builtin.SmallTypes.ownedTupleIsFree
    refine wpAny_bind (wpAny_field hz rfl (x := rawInt T) rfl ?_)
    show wpAny _ _ (loadIfAlive T >>= _) _ _ _
    refine wpAny_bind (wpAny_lia ?_)
    rw [show (Shared.heap ⟨hp, g, d, tk₀, os⟩).get? T = some oT from hT]
    show wpAny _ _ (field (.ref z) 1 >>= _) _ _ _
    refine wpAny_bind (wpAny_field hz rfl (x := .bool f1) rfl ?_)
    cases f1 with
    | true =>
      show wpAny _ _ (pure false) _ _ _
      exact wpAny_pure ⟨rfl, hp, rfl, h1, fun _ _ _ e => e⟩
    | false =>
      show wpAny _ _ (setField (.ref z) 1 (.bool true) >>= _) _ _ _
      refine wpAny_bind (wpAny_setField_rec hz (by simp) fun h₁ hz₁ hs₁ => wpAny_pure ⟨rfl, h₁, rfl, ?_, fun c o hc e => hs₁.extBut c o hc e⟩)
      exact D1.frame _ _ _ h1 fun b hb o e => hs₁.extBut b o (fun q => zf1 (q ▸ hb)) e
  case k =>
    rintro b s' ⟨rfl, h₁, rfl, s1, hk⟩
    simp only [Bool.false_eq_true, if_false]
    refine wpAny_bind ?_
    simp only [List.forIn_toArray, List.forIn_cons, List.forIn_nil]
    refine wpAny_bind (wpAny_bind (wpAny_holding ?_))
    show wpAny _ _ (Builtin.SmallTypes.nextOf (.ref i1) >>= _) _ _ _
    refine wpAny_bind (D1.done _ _ _ s1 fun h' e he ho => ?_)
    exact hE h' e (fun c o c1 c2 ec => he c o c2 (hk c o c1 ec)) ho
end
end Mine
end
section
namespace Mine
theorem zip_no_len : typeLookup (.type "zip") "__len__" = pure none := by rw [typeLookup_type, builtinLookup_eq_fast]; kernel_rfl
theorem zip_no_hint : typeLookup (.type "zip") "__length_hint__" = pure none := by rw [typeLookup_type, builtinLookup_eq_fast]; kernel_rfl
/-- the things that a zip is made of -/
structure Zs where
  z : Addr
  TI : Addr
  TO : Addr
  i1 : Addr
  i2 : Addr
  fp1 : List Addr
  fp2 : List Addr
  n1 : Nat
  n2 : Nat
  P1 : Nat → Value → Prop
  P2 : Nat → Value → Prop
  St1 : Nat → Heap → Prop
  St2 : Nat → Heap → Prop
structure ZOk (prog : Program) (w : World) (Y : Zs) : Prop where
  d1 : ∀ A : Around, A.handled = none → Draws prog w A Y.i1 Y.fp1 Y.n1 Y.P1 Y.St1
  d2 : ∀ A : Around, A.handled = none → Draws prog w A Y.i2 Y.fp2 Y.n2 Y.P2 Y.St2
  le : Y.n1 ≤ Y.n2
  z1 : Y.z ≠ Y.i1
  z2 : Y.z ≠ Y.i2
  zf1 : Y.z ∉ Y.fp1
  zf2 : Y.z ∉ Y.fp2
  i12 : Y.i1 ∉ Y.fp2
  i21 : Y.i2 ∉ Y.fp1
  tz : Y.TO ≠ Y.z
  t1 : Y.TO ≠ Y.i1
  t2 : Y.TO ≠ Y.i2
  tf1 : Y.TO ∉ Y.fp1
  tf2 : Y.TO ∉ Y.fp2
  iz : Y.TI ≠ Y.z
  ii1 : Y.TI ≠ Y.i1
  ii2 : Y.TI ≠ Y.i2
  io : Y.TI ≠ Y.TO
/-- a zip amid its walk -/
structure ZB (Y : Zs) (S : Addr) (i : Nat) (h : Heap) : Prop where
  zp : ∃ (T : Nat) (f1 : Bool) (oT : Obj), IsZp h Y.z Y.TI Y.TO (rawInt T) (.bool f1) ∧ h.get? T = some oT ∧ T ≠ Y.z ∧ T ≠ Y.i1 ∧ T ≠ Y.i2 ∧ T ≠ S
  ti : IsPair h Y.TI (.ref Y.i1) (.ref Y.i2)
  s1 : Y.St1 i h
  s2 : Y.St2 i h
section
variable {prog : Program} {w : World} {A : Around} {E : Value → Shared → Prop} {s : Shared} {Y : Zs} {S : Addr}
theorem ZB.frame (O : ZOk prog w Y) (hh : A.handled = none) {i : Nat} {h h' : Heap} (b : ZB Y S i h) (hS : S ≠ Y.z ∧ S ≠ Y.TI ∧ S ∉ Y.fp1 ∧ S ∉ Y.fp2) (hk : ∀ c o, c ≠ S → h.get? c = some o → h'.get? c = some o) : ZB Y S i h' := by
  obtain ⟨T, f1, oT, hz, hT, t1, t2, t3, t4⟩ := b.zp
  exact ⟨⟨T, f1, oT, hk _ _ (Ne.symm hS.1) hz, hk _ _ t4 hT, t1, t2, t3, t4⟩, hk _ _ (Ne.symm hS.2.1) b.ti,
    (O.d1 A hh).frame _ _ _ b.s1 fun c hc o e => hk c o (fun q => hS.2.2.1 (q ▸ hc)) e, (O.d2 A hh).frame _ _ _ b.s2 fun c hc o e => hk c o (fun q => hS.2.2.2 (q ▸ hc)) e⟩
theorem next_B (O : ZOk prog w Y) (hh : A.handled = none) {i : Nat} {Q : Option Value → Shared → Prop} (b : ZB Y S i s.heap) (hi : i < Y.n1) (hS : ∃ o, s.heap.get? S = some o)
    (hQ : ∀ x y h' tk, Y.P1 i x → Y.P2 i y → ZB Y S (i + 1) h' → h'.get? s.heap.objs.size = some { cls := .type "tuple", data := .seq #[x, y] } →
      (∀ c o, c ≠ Y.z → c ≠ Y.i1 → c ≠ Y.i2 → s.heap.get? c = some o → h'.get? c = some o) → Q (some (.ref s.heap.objs.size)) { s with heap := h', toks := tk }) :
    wpAny (model prog w) A (pyNext (.ref Y.z)) Q E s := by
  obtain ⟨T, f1, oT, hz, hT, t1, t2, t3, t4⟩ := b.zp
  have hty : s.TypeIs (.ref Y.z) "zip" := ⟨_, hz, rfl⟩
  unfold pyNext
  refine wpAny_bind (wpAny_attempt (wpAny_callSpecial?_slot (name := Str.ofString "__next__") hty F.slot_zip_next
    (wpAny_call_entry F.slot_zip_next hty F.entry_zip_next
      (zip_B (O.d1 _ (by exact hh)) (O.d2 _ (by exact hh)) hz b.ti hT b.s1 b.s2 hi (Nat.lt_of_lt_of_le hi O.le) O.z1 O.z2 O.zf1 O.zf2 O.i12 O.i21 O.iz fun x y h' tk p1 p2 a1 a2 a3 a4 a5 a6 => wpAny_pure ?_) (F.args_zip_next_1 _))))
  exact hQ x y h' tk p1 p2 ⟨⟨T, true, oT, a1, a6 T oT t1 t2 t3 hT, t1, t2, t3, t4⟩, a6 _ _ O.iz O.ii1 O.ii2 b.ti, a2, a3⟩ a4 a6
theorem end_B (O : ZOk prog w Y) (hh : A.handled = none) {Q : Option Value → Shared → Prop} (b : ZB Y S Y.n1 s.heap)
    (hQ : ∀ h', (∀ c o, c ≠ Y.z → c ≠ Y.i1 → s.heap.get? c = some o → h'.get? c = some o) → Q none { s with heap := h' }) :
    wpAny (model prog w) A (pyNext (.ref Y.z)) Q E s := by
  obtain ⟨T, f1, oT, hz, hT, t1, t2, t3, t4⟩ := b.zp
  have hty : s.TypeIs (.ref Y.z) "zip" := ⟨_, hz, rfl⟩
  unfold pyNext
  refine wpAny_bind (wpAny_attempt (wpAny_callSpecial?_slot (name := Str.ofString "__next__") hty F.slot_zip_next
    (wpAny_call_entry F.slot_zip_next hty F.entry_zip_next (zip_end (O.d1 _ (by exact hh)) hz b.ti hT b.s1 O.zf1 fun h' e hk he => ?_) (F.args_zip_next_1 _))))
  obtain ⟨o, ho, hc⟩ := he
  refine wpAny_bind (wpAny_isInstance (T := "StopIteration") (b := true) ⟨o, ho, hc⟩ isSubtype_stop ?_)
  exact wpAny_pure (hQ _ hk)
/-- the pairs that a list holds -/
noncomputable def PairsAt (Y : Zs) (S : Addr) (h : Heap) (Ts : List Addr) : Prop := ∀ j T, Ts[j]? = some T → S < T ∧ T ≠ Y.z ∧ T ≠ Y.i1 ∧ T ≠ Y.i2 ∧ ∃ x y, h.get? T = some { cls := .type "tuple", data := .seq #[x, y] } ∧ Y.P1 j x ∧ Y.P2 j y
theorem PairsAt.keep {h h' : Heap} {Ts : List Addr} (p : PairsAt Y S h Ts) (hk : ∀ c o, c ≠ S → c ≠ Y.z → c ≠ Y.i1 → c ≠ Y.i2 → h.get? c = some o → h'.get? c = some o) : PairsAt Y S h' Ts := fun j T e => by
  obtain ⟨a, b, c, d, x, y, ex, p1, p2⟩ := p j T e
  exact ⟨a, b, c, d, x, y, hk _ _ (Nat.ne_of_gt a) b c d ex, p1, p2⟩
theorem PairsAt.snoc {h : Heap} {Ts : List Addr} {T : Addr} (p : PairsAt Y S h Ts) (a : S < T) (b : T ≠ Y.z) (c : T ≠ Y.i1) (d : T ≠ Y.i2) {x y : Value} (e : h.get? T = some { cls := .type "tuple", data := .seq #[x, y] }) (p1 : Y.P1 Ts.length x) (p2 : Y.P2 Ts.length y) : PairsAt Y S h (Ts ++ [T]) := fun j T' e' => by
  by_cases hj : j < Ts.length
  · rw [List.getElem?_append_left hj] at e'; exact p j T' e'
  · have hlt := (List.getElem?_eq_some_iff.mp e').1
    simp only [List.length_append, List.length_cons, List.length_nil] at hlt
    have hj' : j = Ts.length := by (first | lia | omega)
    subst hj'
    rw [List.getElem?_append_right (Nat.le_refl _), Nat.sub_self] at e'
    cases e'
    exact ⟨a, b, c, d, x, y, e, p1, p2⟩
theorem zip_loop {R : Result → Shared → Prop} (O : ZOk prog w Y) (hh : A.handled = none) (hn : Y.n1 ≤ 100000) (hS : S ≠ Y.z ∧ S ≠ Y.TI ∧ S ∉ Y.fp1 ∧ S ∉ Y.fp2) (hSi : S ≠ Y.i1 ∧ S ≠ Y.i2) (res : Value) :
    ∀ (k i : Nat) (s : Shared) (Ts : List Addr) (c : Nat), Y.n1 - i = k → i ≤ Y.n1 → ZB Y S i s.heap → s.heap.get? S = some { cls := .type "list", dict := none, data := .seq (Ts.map Value.ref).toArray c, slots := #[] } → Ts.length = i → PairsAt Y S s.heap Ts →
    (∀ h' tk Ts' c', (∀ b o, b ≠ S → b ≠ Y.z → b ≠ Y.i1 → b ≠ Y.i2 → s.heap.get? b = some o → h'.get? b = some o) → h'.get? S = some { cls := .type "list", dict := none, data := .seq (Ts'.map Value.ref).toArray c', slots := #[] } → Ts'.length = Y.n1 → PairsAt Y S h' Ts' → R (.ok (.ret res)) { s with heap := h', toks := tk }) →
    codeAny (model prog w) A (.builtin "list.extend.loop" ⟨[.ref S, .ref Y.z, res], []⟩) R s := by
  intro k
  induction k with
  | zero =>
    intro i s Ts c hk hi b hSl hl hp hR
    have hin : i = Y.n1 := by (first | lia | omega)
    subst hin
    refine codeAny_builtin F.entry_extend_loop ?_
    rw [Around.under_plainId F.plain_extend_loop _]
    show wpAny _ A.in1 (pyNext (.ref Y.z) >>= _) _ _ s
    refine wpAny_bind (end_B O (by exact hh) b fun h' hk' => ?_)
    refine wpAny_pure (hR h' s.toks Ts c (fun b o _ h2 h3 _ e => hk' b o h2 h3 e) (hk' _ _ hS.1 hSi.1 hSl) hl (hp.keep fun b o _ h2 h3 _ e => hk' b o h2 h3 e))
  | succ k ih =>
    intro i s Ts c hk hi b hSl hl hp hR
    have hlt : i < Y.n1 := by (first | lia | omega)
    refine codeAny_builtin F.entry_extend_loop ?_
    rw [Around.under_plainId F.plain_extend_loop _]
    show wpAny _ A.in1 (pyNext (.ref Y.z) >>= _) _ _ s
    refine wpAny_bind (next_B O (by exact hh) b hlt ⟨_, hSl⟩ fun x y h' tk p1 p2 b' hT hk' => ?_)
    have hS' := hk' _ _ hS.1 hSi.1 hSi.2 hSl
    show wpAny _ A.in1 (updateSeq S (·.push (.ref s.heap.objs.size)) >>= _) _ _ _
    refine wpAny_bind ?_
    have hTS : S < s.heap.objs.size := Heap.lt_size hSl
    have oth : ∀ c o, c ≠ S → h'.get? c = some o → (h'.update S (Obj.mapSeq (·.push (.ref s.heap.objs.size)))).get? c = some o := fun c o hc e => (Heap.get?_update_other _ _ (Ne.symm hc)).trans e
    obtain ⟨T0, _, _, hz, hT0, _⟩ := b.zp
    have nz : s.heap.objs.size ≠ Y.z := Nat.ne_of_gt (Heap.lt_size hz)
    obtain ⟨o1, e1⟩ := (O.d1 A hh).live _ _ b.s1
    obtain ⟨o2, e2⟩ := (O.d2 A hh).live _ _ b.s2
    have n1 : s.heap.objs.size ≠ Y.i1 := Nat.ne_of_gt (Heap.lt_size e1)
    have n2 : s.heap.objs.size ≠ Y.i2 := Nat.ne_of_gt (Heap.lt_size e2)
    obtain ⟨c2, hS2⟩ : ∃ c2, (h'.update S (Obj.mapSeq (·.push (.ref s.heap.objs.size)))).get? S = some { cls := .type "list", dict := none, data := .seq ((Ts ++ [s.heap.objs.size]).map Value.ref).toArray c2, slots := #[] } := by
      rw [Heap.get?_update_self (Obj.mapSeq (·.push (.ref s.heap.objs.size))) hS' rfl]
      exact ⟨_, by simp only [Obj.mapSeq, List.map_append, List.map_cons, List.map_nil, List.push_toArray]; rfl⟩
    refine wpAny_updateSeq hS' rfl (wpAny_pure ⟨plainId_quiet F.plain_extend_loop _, ih (i + 1) _ (Ts ++ [s.heap.objs.size]) c2 (by (first | lia | omega)) hlt (b'.frame O hh hS oth) hS2 (by simp [hl]) ?_ ?_⟩) ?_ ?_
    · refine ((hp.keep fun c o h1 h2 h3 h4 e => hk' c o h2 h3 h4 e).snoc hTS nz n1 n2 hT (by rw [hl]; exact p1) (by rw [hl]; exact p2)).keep fun c o h1 _ _ _ e => oth c o h1 e
    · intro h'' tk'' Ts' c' hk'' hS'' hl' hp'
      exact hR h'' tk'' Ts' c' (fun b o h1 h2 h3 h4 e => hk'' b o h1 h2 h3 h4 (oth b o h1 (hk' b o h2 h3 h4 e))) hS'' hl' hp'
    · rw [List.size_toArray, List.length_map, sizeLine_eq]; (first | lia | omega)
    · rw [Array.size_push, List.size_toArray, List.length_map, sizeLine_eq]; (first | lia | omega)
end
end Mine
end
section
namespace Mine
/-- a zip ahead of its walk -/
structure ZA (Y : Zs) (h : Heap) : Prop where
  zp : IsZp h Y.z Y.TI Y.TO .none (.bool false)
  ti : IsPair h Y.TI (.ref Y.i1) (.ref Y.i2)
  to : ∃ a b, IsPair h Y.TO a b
  s1 : Y.St1 0 h
  s2 : Y.St2 0 h
section
variable {prog : Program} {w : World} {A : Around} {E : Value → Shared → Prop} {s : Shared} {Y : Zs} {S : Addr}
theorem ZA.frame (O : ZOk prog w Y) (hh : A.handled = none) {h h' : Heap} (b : ZA Y h) (hS : S ≠ Y.z ∧ S ≠ Y.TI ∧ S ∉ Y.fp1 ∧ S ∉ Y.fp2) (hT : S ≠ Y.TO) (hk : ∀ c o, c ≠ S → h.get? c = some o → h'.get? c = some o) : ZA Y h' := by
  obtain ⟨x, y, e⟩ := b.to
  exact ⟨hk _ _ (Ne.symm hS.1) b.zp, hk _ _ (Ne.symm hS.2.1) b.ti, ⟨x, y, hk _ _ (Ne.symm hT) e⟩,
    (O.d1 A hh).frame _ _ _ b.s1 fun c hc o e => hk c o (fun q => hS.2.2.1 (q ▸ hc)) e, (O.d2 A hh).frame _ _ _ b.s2 fun c hc o e => hk c o (fun q => hS.2.2.2 (q ▸ hc)) e⟩
theorem next_A (O : ZOk prog w Y) (hh : A.handled = none) {Q : Option Value → Shared → Prop} (b : ZA Y s.heap) (hi : 0 < Y.n1) (hS : ∃ o, s.heap.get? S = some o)
    (hQ : ∀ x y h' tk, Y.P1 0 x → Y.P2 0 y → ZB Y S 1 h' → h'.get? s.heap.objs.size = some { cls := .type "tuple", data := .seq #[x, y] } →
      (∀ c o, c ≠ Y.z → c ≠ Y.i1 → c ≠ Y.i2 → c ≠ Y.TO → s.heap.get? c = some o → h'.get? c = some o) → Q (some (.ref s.heap.objs.size)) { s with heap := h', toks := tk }) :
    wpAny (model prog w) A (pyNext (.ref Y.z)) Q E s := by
  have hz := b.zp
  obtain ⟨ta, tb, hTO⟩ := b.to
  have hty : s.TypeIs (.ref Y.z) "zip" := ⟨_, hz, rfl⟩
  obtain ⟨oS, eS⟩ := hS
  obtain ⟨o1, e1⟩ := (O.d1 A hh).live _ _ b.s1
  obtain ⟨o2, e2⟩ := (O.d2 A hh).live _ _ b.s2
  unfold pyNext
  refine wpAny_bind (wpAny_attempt (wpAny_callSpecial?_slot (name := Str.ofString "__next__") hty F.slot_zip_next
    (wpAny_call_entry F.slot_zip_next hty F.entry_zip_next
      (zip_A (i := 0) (O.d1 _ (by exact hh)) (O.d2 _ (by exact hh)) hz b.ti hTO b.s1 b.s2 hi (Nat.lt_of_lt_of_le hi O.le) O.z1 O.z2 O.zf1 O.zf2 O.i12 O.i21 O.tz O.t1 O.t2 O.tf1 O.tf2 fun x y h' tk p1 p2 a1 a2 a3 a4 a5 a6 => wpAny_pure ?_) (F.args_zip_next_1 _))))
  exact hQ x y h' tk p1 p2 ⟨⟨_, false, _, a1, a4, Nat.ne_of_gt (Heap.lt_size hz), Nat.ne_of_gt (Heap.lt_size e1), Nat.ne_of_gt (Heap.lt_size e2), Nat.ne_of_gt (Heap.lt_size eS)⟩, a6 _ _ O.iz O.ii1 O.ii2 O.io b.ti, a2, a3⟩ a4 a6
theorem zip_loop0 {R : Result → Shared → Prop} (O : ZOk prog w Y) (hh : A.handled = none) (h0 : 0 < Y.n1) (hn : Y.n1 ≤ 100000) (hS : S ≠ Y.z ∧ S ≠ Y.TI ∧ S ∉ Y.fp1 ∧ S ∉ Y.fp2) (hSi : S ≠ Y.i1 ∧ S ≠ Y.i2) (hST : S ≠ Y.TO) (res : Value)
    (s : Shared) (c : Nat) (b : ZA Y s.heap) (hSl : s.heap.get? S = some { cls := .type "list", dict := none, data := .seq #[] c, slots := #[] })
    (hR : ∀ h' tk Ts' c', (∀ b o, b ≠ S → b ≠ Y.z → b ≠ Y.i1 → b ≠ Y.i2 → b ≠ Y.TO → s.heap.get? b = some o → h'.get? b = some o) → h'.get? S = some { cls := .type "list", dict := none, data := .seq (Ts'.map Value.ref).toArray c', slots := #[] } → Ts'.length = Y.n1 → PairsAt Y S h' Ts' → R (.ok (.ret res)) { s with heap := h', toks := tk }) :
    codeAny (model prog w) A (.builtin "list.extend.loop" ⟨[.ref S, .ref Y.z, res], []⟩) R s := by
  refine codeAny_builtin F.entry_extend_loop ?_
  rw [Around.under_plainId F.plain_extend_loop _]
  show wpAny _ A.in1 (pyNext (.ref Y.z) >>= _) _ _ s
  refine wpAny_bind (next_A (S := S) O (by exact hh) b h0 ⟨_, hSl⟩ fun x y h' tk p1 p2 b' hT hk' => ?_)
  have hS' := hk' _ _ hS.1 hSi.1 hSi.2 hST hSl
  show wpAny _ A.in1 (updateSeq S (·.push (.ref s.heap.objs.size)) >>= _) _ _ _
  refine wpAny_bind ?_
  have hTS : S < s.heap.objs.size := Heap.lt_size hSl
  have oth : ∀ c o, c ≠ S → h'.get? c = some o → (h'.update S (Obj.mapSeq (·.push (.ref s.heap.objs.size)))).get? c = some o := fun c o hc e => (Heap.get?_update_other _ _ (Ne.symm hc)).trans e
  have nz : s.heap.objs.size ≠ Y.z := Nat.ne_of_gt (Heap.lt_size b.zp)
  obtain ⟨o1, e1⟩ := (O.d1 A hh).live _ _ b.s1
  obtain ⟨o2, e2⟩ := (O.d2 A hh).live _ _ b.s2
  have n1 : s.heap.objs.size ≠ Y.i1 := Nat.ne_of_gt (Heap.lt_size e1)
  have n2 : s.heap.objs.size ≠ Y.i2 := Nat.ne_of_gt (Heap.lt_size e2)
  obtain ⟨c2, hS2⟩ : ∃ c2, (h'.update S (Obj.mapSeq (·.push (.ref s.heap.objs.size)))).get? S = some { cls := .type "list", dict := none, data := .seq (([s.heap.objs.size] : List Addr).map Value.ref).toArray c2, slots := #[] } := by
    rw [Heap.get?_update_self (Obj.mapSeq (·.push (.ref s.heap.objs.size))) hS' rfl]
    exact ⟨_, by simp only [Obj.mapSeq, List.map_cons, List.map_nil]; rfl⟩
  refine wpAny_updateSeq hS' rfl (wpAny_pure ⟨plainId_quiet F.plain_extend_loop _, zip_loop O hh hn hS hSi res (Y.n1 - 1) 1 _ [s.heap.objs.size] c2 rfl h0 (b'.frame O hh hS oth) hS2 rfl ?_ ?_⟩) ?_ ?_
  · have p0 : PairsAt Y S h' [] := fun j T e => by cases e
    exact (p0.snoc hTS nz n1 n2 hT p1 p2).keep fun c o h1 _ _ _ e => oth c o h1 e
  · intro h'' tk'' Ts' c' hk'' hS'' hl' hp'
    exact hR h'' tk'' Ts' c' (fun b o h1 h2 h3 h4 h5 e => hk'' b o h1 h2 h3 h4 (oth b o h1 (hk' b o h2 h3 h4 h5 e))) hS'' hl' hp'
  · decide
  · simp [sizeLine_eq]
set_option maxHeartbeats 2000000 in
/-- list(z) -/
theorem call_list_zip {Q : Value → Shared → Prop} (O : ZOk prog w Y) (hh : A.handled = none) (h0 : 0 < Y.n1) (hn : Y.n1 ≤ 100000) (b : ZA Y s.heap) (hlt : Y.i1 < s.heap.objs.size ∧ Y.i2 < s.heap.objs.size ∧ ∀ c ∈ Y.fp1 ++ Y.fp2, c < s.heap.objs.size)
    (hQ : ∀ h' tk Ts c, (∀ b o, b ≠ Y.z → b ≠ Y.i1 → b ≠ Y.i2 → b ≠ Y.TO → s.heap.get? b = some o → h'.get? b = some o) → h'.get? s.heap.objs.size = some { cls := .type "list", dict := none, data := .seq (Ts.map Value.ref).toArray c, slots := #[] } → Ts.length = Y.n1 → PairsAt Y s.heap.objs.size h' Ts → Q (.ref s.heap.objs.size) { s with heap := h', toks := tk }) :
    wpAny (model prog w) A (call (.type "list") [.ref Y.z]) Q E s := by
  obtain ⟨ta, tb, hTO⟩ := b.to
  have nz : s.heap.objs.size ≠ Y.z := Nat.ne_of_gt (Heap.lt_size b.zp)
  have nti : s.heap.objs.size ≠ Y.TI := Nat.ne_of_gt (Heap.lt_size b.ti)
  have nto : s.heap.objs.size ≠ Y.TO := Nat.ne_of_gt (Heap.lt_size hTO)
  have n1 : s.heap.objs.size ≠ Y.i1 := Nat.ne_of_gt hlt.1
  have n2 : s.heap.objs.size ≠ Y.i2 := Nat.ne_of_gt hlt.2.1
  have f1 : s.heap.objs.size ∉ Y.fp1 := fun h => Nat.lt_irrefl _ (hlt.2.2 _ (List.mem_append_left _ h))
  have f2 : s.heap.objs.size ∉ Y.fp2 := fun h => Nat.lt_irrefl _ (hlt.2.2 _ (List.mem_append_right _ h))
  refine callType_codes (Q₁ := fun obj s₁ => obj = .ref s.heap.objs.size ∧ s₁ = { s with heap := s.heap.push { cls := .type "list", data := .seq #[] } }) F.called_list (F.typeCall_list_1 _) F.entry_list_init
    (code_list_new _ ⟨rfl, rfl⟩) fun obj s₁ h₁ => ?_
  obtain ⟨rfl, rfl⟩ := h₁
  have hS : (s.heap.push { cls := .type "list", data := .seq #[] }).get? s.heap.objs.size = some { cls := .type "list", data := .seq #[] } := Heap.get?_push_size _ rfl
  refine ⟨⟨_, hS, rfl⟩, F.args_list_init_2 _ _, ?_⟩
  have b1 : ZA Y (s.heap.push { cls := .type "list", data := .seq #[] }) := b.frame (S := s.heap.objs.size) O hh ⟨nz, nti, f1, f2⟩ nto fun c o _ e => Heap.get?_push_of_some _ e
  have hS0 := hS
  generalize hH : s.heap.push { cls := .type "list", data := .seq #[] } = H1 at hS b1
  show wpAny _ _ (Builtin.List.listItems (.ref s.heap.objs.size) >>= fun old => Builtin.List.listUpdate (.ref s.heap.objs.size) (fun _ => #[]) >>= fun _ => letGo old.toList.reverse >>= fun _ => Builtin.List.listExtendWith (.ref s.heap.objs.size) (.ref Y.z) .none) _ _ _
  refine wpAny_bind ?_
  unfold Builtin.List.listItems
  refine wpAny_bind (wpAny_seqItems hS rfl (wpAny_pure ?_))
  show wpAny _ _ (updateSeq s.heap.objs.size (fun _ => #[]) >>= fun _ => letGo (#[] : Array Value).toList.reverse >>= fun _ => Builtin.List.listExtendWith (.ref s.heap.objs.size) (.ref Y.z) .none) _ _ _
  refine wpAny_bind (wpAny_updateSeq hS rfl ?_)
  have hS₂ := Heap.get?_update_self (Obj.mapSeq (fun _ => (#[] : Array Value))) hS rfl
  have oth : ∀ b o, b ≠ s.heap.objs.size → H1.get? b = some o → (H1.update s.heap.objs.size (Obj.mapSeq (fun _ => (#[] : Array Value)))).get? b = some o :=
    fun b o hb e => (Heap.get?_update_other _ _ (Ne.symm hb)).trans e
  have b2 : ZA Y (H1.update s.heap.objs.size (Obj.mapSeq (fun _ => (#[] : Array Value)))) := b1.frame (S := s.heap.objs.size) O hh ⟨nz, nti, f1, f2⟩ nto oth
  refine wpAny_bind (wpAny_letGo ?_)
  generalize hH2 : H1.update s.heap.objs.size (Obj.mapSeq (fun _ => (#[] : Array Value))) = H2 at hS₂ b2 oth
  have hty : Shared.TypeIs { s with heap := H2 } (.ref Y.z) "zip" := ⟨_, b2.zp, rfl⟩
  unfold Builtin.List.listExtendWith
  refine wpAny_bind (wpAny_typeOf hty ?_)
  have q1 : Builtin.List.listSameRef (.ref s.heap.objs.size) (.ref Y.z) = false := by simp [Builtin.List.listSameRef, nz]
  have q2 : (Value.type "zip" == Value.type "list") = false := by decide
  have q3 : (Value.type "zip" == Value.type "tuple") = false := by decide
  simp only [q1, q2, q3, Bool.or_false, Bool.false_eq_true, if_false]
  refine wpAny_bind (wpAny_pyIter_zip (TI := Y.TI) (TO := Y.TO) (f0 := .none) b2.zp ?_)
  refine wpAny_bind (wpAny_holding ?_)
  unfold Builtin.List.listLengthHint
  refine wpAny_bind (wpAny_specialOf hty zip_no_len ?_)
  show wpAny _ _ (specialOf (Value.ref Y.z) (Str.ofString "__length_hint__") >>= _) _ _ _
  refine wpAny_bind (wpAny_specialOf hty zip_no_hint ?_)
  refine wpAny_pure ?_
  show wpAny _ _ (rule "list.extend.makes-room" >>= fun _ => Builtin.List.listTouch (.ref s.heap.objs.size) >>= fun _ =>
    again (.builtin "list.extend.loop" ⟨[.ref s.heap.objs.size, .ref Y.z, .none], []⟩)) _ _ _
  refine wpAny_bind (wpAny_rule ?_)
  refine wpAny_bind ?_
  show wpAny _ _ (updateSeq s.heap.objs.size (·.push .none) >>= fun _ => updateSeq s.heap.objs.size (·.pop)) _ _ _
  refine wpAny_bind (wpAny_updateSeq hS₂ rfl ?_)
  have hS₃ := Heap.get?_update_self (Obj.mapSeq (·.push Value.none)) hS₂ rfl
  refine wpAny_updateSeq (hz := by seq_fits) hS₃ rfl ?_
  have hS₄ := Heap.get?_update_self (Obj.mapSeq (·.pop)) hS₃ rfl
  have oth2 : ∀ b o, b ≠ s.heap.objs.size → H2.get? b = some o → ((H2.update s.heap.objs.size (Obj.mapSeq (·.push Value.none))).update s.heap.objs.size (Obj.mapSeq (·.pop))).get? b = some o :=
    fun b o hb e => (Heap.get?_update_other _ _ (Ne.symm hb)).trans ((Heap.get?_update_other _ _ (Ne.symm hb)).trans e)
  have b3 := b2.frame (S := s.heap.objs.size) O hh ⟨nz, nti, f1, f2⟩ nto oth2
  refine wpAny_pure ⟨plainId_quiet F.plain_extend_loop _, zip_loop0 (A := A.in1) O hh h0 hn ⟨nz, nti, f1, f2⟩ ⟨n1, n2⟩ nto .none _ _ b3 hS₄ fun h' tk Ts c hk hSl hl hp => ?_⟩
  refine ⟨rfl, hQ h' tk Ts c (fun b o h1 h2 h3 h4 e => ?_) hSl hl hp⟩
  have hb : b ≠ s.heap.objs.size := Nat.ne_of_lt (Heap.lt_size e)
  exact hk b o hb h1 h2 h3 h4 (oth2 b o hb (oth b o hb (by rw [← hH]; exact Heap.get?_push_of_some _ e)))
end
end Mine
end
section
namespace Mine
abbrev zsH1 (h : Heap) (x : Str) (t : Tok) : Heap := h.push { cls := .type "str_ascii_iterator", data := .fields #[.str x t, .int 0 0] }
abbrev zsH2 (h : Heap) (x : Str) (t : Tok) (l2 : Addr) : Heap := (zsH1 h x t).push { cls := .type "list_iterator", data := .fields #[.ref l2, .int 0 0] }
abbrev zsH3 (h : Heap) (x : Str) (t : Tok) (l2 : Addr) : Heap := (zsH2 h x t l2).push { cls := .type "tuple", data := .seq #[.ref h.objs.size, .ref (zsH1 h x t).objs.size] }
abbrev zsH4 (h : Heap) (x : Str) (t : Tok) (l2 : Addr) : Heap := (zsH3 h x t l2).push { cls := .type "tuple", data := .seq #[.none, .none] }
abbrev zsH5 (h : Heap) (x : Str) (t : Tok) (l2 : Addr) : Heap := (zsH4 h x t l2).push { cls := .type "zip", data := .fields #[.none, .bool false, .bool false, .ref (zsH2 h x t l2).objs.size, .ref (zsH3 h x t l2).objs.size] }
set_option maxHeartbeats 2000000 in
theorem meets_zip_str (x : Str) (t : Tok) (l2 : Addr) (ys : Array Value) (ha : x.cps.all (· < 128) = true) :
    Meets (Builtin.«zip.__new__» ⟨[.type "zip", .str x t, .ref l2], []⟩) (fun _ R s => s.heap.IsList l2 ys ∧
      R (.ok (.ret (.ref (zsH4 s.heap x t l2).objs.size))) { s with heap := zsH5 s.heap x t l2 }) :=
  .of_wp fun prog w A R s h => by
    obtain ⟨hp, g, d, tk, os⟩ := s; obtain ⟨hl2, h⟩ := h
    have hsub := sub_zip
    have hL2 : Heap.IsList (Shared.heap ⟨hp.push { cls := .type "str_ascii_iterator", data := .fields #[.str x t, .int 0 0] }, g, d, tk, os⟩) l2 ys := Heap.IsList.push hl2 _
    wp_walk using wpAny_pyIter_ascii ha, wpAny_pyIter_list hL2
    exact ⟨_, rfl, h⟩
section
variable {prog : Program} {w : World} {A : Around} {E : Value → Shared → Prop} {s : Shared}
theorem call_zip_str {x : Str} {t : Tok} {l2 : Addr} {ys : Array Value} {Q : Value → Shared → Prop} (ha : x.cps.all (· < 128) = true) (hl2 : s.heap.IsList l2 ys)
    (h : ∀ h', IsZp h' (s.heap.objs.size + 4) (s.heap.objs.size + 2) (s.heap.objs.size + 3) .none (.bool false) → IsPair h' (s.heap.objs.size + 2) (.ref s.heap.objs.size) (.ref (s.heap.objs.size + 1)) →
      IsPair h' (s.heap.objs.size + 3) .none .none → h'.IsStrIter s.heap.objs.size "str_ascii_iterator" x t 0 → h'.IsListIter (s.heap.objs.size + 1) l2 0 → h'.objs.size = s.heap.objs.size + 5 →
      (∀ c o, s.heap.get? c = some o → h'.get? c = some o) → Q (.ref (s.heap.objs.size + 4)) { s with heap := h' }) :
    wpAny (model prog w) A (call (.type "zip") [.str x t, .ref l2]) Q E s := by
  refine callType_new F.called_zip (by decide) (F.typeCall_zip_2 _ _) (F.newCall_zip_2 _ _) (fun obj => F.args_object_init_3 obj _ _) F.entry_zip_new
    (meets_zip_str x t l2 ys ha) ⟨hl2, ?_⟩
  have z1 : (zsH1 s.heap x t).objs.size = s.heap.objs.size + 1 := Heap.size_push ..
  have z2 : (zsH2 s.heap x t l2).objs.size = s.heap.objs.size + 2 := by rw [Heap.size_push, z1]
  have z3 : (zsH3 s.heap x t l2).objs.size = s.heap.objs.size + 3 := by rw [Heap.size_push, z2]
  have z4 : (zsH4 s.heap x t l2).objs.size = s.heap.objs.size + 4 := by rw [Heap.size_push, z3]
  have z5 : (zsH5 s.heap x t l2).objs.size = s.heap.objs.size + 5 := by rw [Heap.size_push, z4]
  have g5 : (zsH5 s.heap x t l2).get? (zsH4 s.heap x t l2).objs.size = some _ := Heap.get?_push_size _ rfl
  have g4 : (zsH5 s.heap x t l2).get? (zsH3 s.heap x t l2).objs.size = some _ := Heap.get?_push_of_some _ (Heap.get?_push_size _ rfl)
  have g3 : (zsH5 s.heap x t l2).get? (zsH2 s.heap x t l2).objs.size = some _ := Heap.get?_push_of_some _ (Heap.get?_push_of_some _ (Heap.get?_push_size _ rfl))
  have g2 : (zsH5 s.heap x t l2).get? (zsH1 s.heap x t).objs.size = some _ := Heap.get?_push_of_some _ (Heap.get?_push_of_some _ (Heap.get?_push_of_some _ (Heap.get?_push_size _ rfl)))
  have g1 : (zsH5 s.heap x t l2).get? s.heap.objs.size = some _ := Heap.get?_push_of_some _ (Heap.get?_push_of_some _ (Heap.get?_push_of_some _ (Heap.get?_push_of_some _ (Heap.get?_push_size _ rfl))))
  show _ ∧ _
  rw [z2, z3, z4] at g5
  rw [z1, z2] at g3
  rw [z3] at g4
  rw [z1] at g2
  rw [z4]
  exact ⟨⟨_, g5, rfl⟩, h _ g5 g3 g4 ⟨_, g1, rfl, rfl⟩ ⟨_, g2, rfl, rfl⟩ z5 fun c o x =>
    Heap.get?_push_of_some _ (Heap.get?_push_of_some _ (Heap.get?_push_of_some _ (Heap.get?_push_of_some _ (Heap.get?_push_of_some _ x))))⟩
end
section
variable {h₀ : Heap} {prog : Program} {w : World} {n : Nat} {env : Env}
theorem Ke.many {Z Z' : Zm} {loc : Loc} {H : LH} {s s' : Shared} (S : Sat h₀ Z env loc H s.heap) (k : Kp s s') (hz : Zle Z Z') (hf : ∀ a o, Z' a = some o → s'.heap.get? a = some o) (hn : ∀ a, Z a = none → Z' a ≠ none → s.heap.get? a = none) : Ke h₀ env loc Z H s Z' H s' := by
  have no : ∀ a o, s.heap.get? a = some o → Z a = none → Z' a = none := fun a o e hz' => by
    cases q : Z' a with
    | none => rfl
    | some o' => have := hn a hz' (by rw [q]; exact Option.some_ne_none _); rw [e] at this; cases this
  refine ⟨(S.keeps fun _ _ e => k.get e).freeze hz hf ?_ ?_ ?_, k, ⟨hz, hn⟩, FreshH.refl s H⟩
  · obtain ⟨o, e⟩ := S.nsAt; exact no _ o e S.nsZ
  · intro m c hm
    obtain ⟨z, _, o, e, _⟩ := S.cellZ m c hm
    exact no _ o e z
  · intro a l e
    obtain ⟨z, _, _, eo, _⟩ := S.obj a l e
    exact no _ _ eo z
end
end Mine
end
section
namespace Mine
noncomputable def zsrc (H : LH) : PV → Option (List PV)
  | .str x => if x.cps.all (· < 128) then some (strSigns x) else none
  | a => lstOf H a
/-- list(zip(a, b)) -/
noncomputable def zlW (a b : PV) (H : LH) (Q : PV → LH → Prop) : Prop :=
  ∃ xs ys, zsrc H a = some xs ∧ lstOf H b = some ys ∧ 0 < xs.length ∧ xs.length ≤ ys.length ∧ ys.length ≤ 100000 ∧ Q (.lst (List.zipWith (fun p q => .tup [p, q]) xs ys)) H
section
variable {h₀ : Heap} {prog : Program} {w : World} {n : Nat} {env : Env}
theorem VRs.build {Z : Zm} : ∀ {ps : List PV} {vs : List Value}, vs.length = ps.length → (∀ (j : Nat) v, vs[j]? = some v → ∃ p, ps[j]? = some p ∧ VR Z p v) → VRs Z ps vs
  | [], [], _, _ => .nil
  | p :: ps, v :: vs, hl, h => by
    obtain ⟨p', e, hv⟩ := h 0 v rfl
    cases e
    exact .cons hv (VRs.build (by simpa using hl) fun j u e => h (j + 1) u e)
/-- from the zip on -/
theorem lz_tail {A : Around} {Z : Zm} {loc : Loc} {H : LH} {s s₁ : Shared} {xs ys : List PV} {Y : Zs} {Q : PV → LH → Prop} {Q' : Value → Shared → Prop} {E : Value → Shared → Prop} (hh : A.handled = none) (S : Sat h₀ Z env loc H s.heap) (O : ZOk prog w Y) (kp : Kp s s₁) (b : ZA Y s₁.heap)
    (hnew : s.heap.objs.size ≤ Y.z ∧ s.heap.objs.size ≤ Y.i1 ∧ s.heap.objs.size ≤ Y.i2 ∧ s.heap.objs.size ≤ Y.TO) (hlt : Y.i1 < s₁.heap.objs.size ∧ Y.i2 < s₁.heap.objs.size ∧ ∀ c ∈ Y.fp1 ++ Y.fp2, c < s₁.heap.objs.size) (hle : s.heap.objs.size ≤ s₁.heap.objs.size)
    (h0 : 0 < xs.length) (h1 : Y.n1 = xs.length) (h2 : xs.length ≤ ys.length) (h3 : ys.length ≤ 100000)
    (p1 : ∀ j x, Y.P1 j x → ∃ p, xs[j]? = some p ∧ VR Z p x) (p2 : ∀ j x, Y.P2 j x → ∃ p, ys[j]? = some p ∧ VR Z p x)
    (f : Q (.lst (List.zipWith (fun p q => .tup [p, q]) xs ys)) H) (q : ∀ v p Z' H' s', Ke h₀ env loc Z H s Z' H' s' → VR Z' p v → Q p H' → Q' v s') :
    wpAny (model prog w) A (call (.type "list") [.ref Y.z]) Q' E s₁ := by
  refine call_list_zip O hh (by (first | lia | omega)) (by (first | lia | omega)) b hlt fun h' tk Ts c hk hS hl hp => ?_
  have old : ∀ a o, s.heap.get? a = some o → h'.get? a = some o := fun a o e => by
    have hlt' := Heap.lt_size e
    exact hk a o (Nat.ne_of_lt (Nat.lt_of_lt_of_le hlt' hnew.1)) (Nat.ne_of_lt (Nat.lt_of_lt_of_le hlt' hnew.2.1)) (Nat.ne_of_lt (Nat.lt_of_lt_of_le hlt' hnew.2.2.1)) (Nat.ne_of_lt (Nat.lt_of_lt_of_le hlt' hnew.2.2.2)) (kp.get e)
  have kp' : Kp s { s₁ with heap := h', toks := tk } := by
    obtain ⟨h₁, t₁, rfl, _⟩ := kp
    exact ⟨h', tk, rfl, old⟩
  have big : ∀ a, (a = s₁.heap.objs.size ∨ a ∈ Ts) → s.heap.objs.size ≤ a := fun a ha => by
    rcases ha with rfl | ha
    · exact hle
    · obtain ⟨j, e⟩ := List.getElem?_of_mem ha
      exact Nat.le_trans hle (Nat.le_of_lt (hp j a e).1)
  have fresh : ∀ a, (a = s₁.heap.objs.size ∨ a ∈ Ts) → s.heap.get? a = none := fun a ha => Heap.get?_none_of_le (big a ha)
  let Z' : Zm := fun a => if a = s₁.heap.objs.size ∨ a ∈ Ts then h'.get? a else Z a
  have hz : Zle Z Z' := fun a o e => by
    have hn : ¬ (a = s₁.heap.objs.size ∨ a ∈ Ts) := fun h => by have := fresh a h; rw [S.frz a o e] at this; cases this
    show (if _ then _ else _) = _
    rw [if_neg hn]; exact e
  have K : Ke h₀ env loc Z H s Z' H { s₁ with heap := h', toks := tk } := by
    refine Ke.many S kp' hz (fun a o e => ?_) fun a hza hz' => ?_
    · have e' : (if a = s₁.heap.objs.size ∨ a ∈ Ts then h'.get? a else Z a) = some o := e
      by_cases h : a = s₁.heap.objs.size ∨ a ∈ Ts
      · rw [if_pos h] at e'; exact e'
      · rw [if_neg h] at e'; exact old _ _ (S.frz _ _ e')
    · by_cases h : a = s₁.heap.objs.size ∨ a ∈ Ts
      · exact fresh a h
      · refine absurd ?_ hz'
        show (if _ then _ else _) = _
        rw [if_neg h]; exact hza
  have zS : Z' s₁.heap.objs.size = some { cls := .type "list", data := .seq (Ts.map Value.ref).toArray c } := by
    show (if _ then _ else _) = _
    rw [if_pos (.inl rfl)]; exact hS
  have zT : ∀ T o, T ∈ Ts → h'.get? T = some o → Z' T = some o := fun T o hT e => by
    show (if _ then _ else _) = _
    rw [if_pos (.inr hT)]; exact e
  refine q _ _ _ _ _ K (.lst zS (VRs.build ?_ fun j v e => ?_)) f
  · rw [List.length_map, List.length_zipWith, hl, h1]; (first | lia | omega)
  · rw [List.getElem?_map] at e
    cases r : Ts[j]? with
    | none => rw [r] at e; cases e
    | some T =>
      rw [r] at e
      cases e
      obtain ⟨_, _, _, _, x, y, ex, q1, q2⟩ := hp j T r
      obtain ⟨p, hp1, v1⟩ := p1 j x q1
      obtain ⟨p', hp2, v2⟩ := p2 j y q2
      refine ⟨.tup [p, p'], ?_, .tup (vs := [x, y]) (n := 0) (zT T _ (List.mem_of_getElem? r) ex) (.cons (v1.mono hz) (.cons (v2.mono hz) .nil))⟩
      rw [List.getElem?_zipWith, hp1, hp2]
end
end Mine
end
section
namespace Mine
section
variable {K : Frag} {h₀ : Heap} {prog : Program} {w : World} {n : Nat} {env : Env}
theorem nm_list {pos : Pos} (G : Gr K h₀) (e : nsIn K mainGlobals (Str.ofString "list") = some none) (hx : env.kindOf (Str.ofString "list") = some .globalImplicit) (hg : env.globals = mainGlobals) (hb : env.builtins = builtinsNs) : NmOk h₀ prog w env (.Name (Str.ofString "list") pos) (.type "list") :=
  nm_boot G e (by decide +kernel) (by decide) hx hg hb (by decide)
theorem nm_zip {pos : Pos} (G : Gr K h₀) (e : nsIn K mainGlobals (Str.ofString "zip") = some none) (hx : env.kindOf (Str.ofString "zip") = some .globalImplicit) (hg : env.globals = mainGlobals) (hb : env.builtins = builtinsNs) : NmOk h₀ prog w env (.Name (Str.ofString "zip") pos) (.type "zip") :=
  nm_boot G e (by decide +kernel) (by decide) hx hg hb (by decide)
/-- list(zip(x, y)) on values -/
theorem lz_ok {A : Around} {Z : Zm} {loc : Loc} {H : LH} {s : Shared} {a b : PV} {x y : Value} {Q : PV → LH → Prop} {Q' : Value → Shared → Prop} {E : Value → Shared → Prop} (hh : A.handled = none) (S : Sat h₀ Z env loc H s.heap) (va : VR Z a x) (vb : VR Z b y) (f : zlW a b H Q)
    (q : ∀ v p Z' H' s', Ke h₀ env loc Z H s Z' H' s' → VR Z' p v → Q p H' → Q' v s') :
    wpAny (model prog w) A (call (.type "zip") [x, y]) (fun v s₁ => (∀ b o, h₀.get? b = some o → s₁.heap.get? b = some o) ∧ wpAny (model prog w) A (call (.type "list") [v]) Q' E s₁) E s := by
  obtain ⟨xs, ys, hx, hy, h0, h1, h2, f⟩ := f
  obtain ⟨l2, us, rfl, hL2, r2⟩ := lst_isList S vb hy
  have l2lt : l2 < s.heap.objs.size := by obtain ⟨o, e, _⟩ := hL2; exact Heap.lt_size e
  have m : ∀ k : Nat, ¬ (s.heap.objs.size + k = l2) := fun k e => Nat.lt_irrefl _ (Nat.lt_of_lt_of_le l2lt (e ▸ Nat.le_add_right _ _))
  have m0 : ¬ (s.heap.objs.size = l2) := m 0
  have ml : l2 < s.heap.objs.size + 5 := Nat.lt_of_lt_of_le l2lt (Nat.le_add_right _ _)
  have second : ∀ (h' : Heap) (j : Nat) (v : Value), us.toArray[j]? = some v → ∃ p, ys[j]? = some p ∧ VR Z p v := fun _ j v e => r2.get' (by simpa using e)
  have lists : lstOf H a = some xs → wpAny (model prog w) A (call (.type "zip") [x, .ref l2]) (fun v s₁ => (∀ b o, h₀.get? b = some o → s₁.heap.get? b = some o) ∧ wpAny (model prog w) A (call (.type "list") [v]) Q' E s₁) E s := fun hx => by
    obtain ⟨l1, vs, rfl, hL1, r1⟩ := lst_isList S va hx
    have l1lt : l1 < s.heap.objs.size := by obtain ⟨o, e, _⟩ := hL1; exact Heap.lt_size e
    have k : ∀ j : Nat, ¬ (s.heap.objs.size + j = l1) := fun j e => Nat.lt_irrefl _ (Nat.lt_of_lt_of_le l1lt (e ▸ Nat.le_add_right _ _))
    have k0 : ¬ (s.heap.objs.size = l1) := k 0
    have kl : l1 < s.heap.objs.size + 5 := Nat.lt_of_lt_of_le l1lt (Nat.le_add_right _ _)
    refine call_zip_2 hL1 hL2 fun h' g5 g3 g4 g1 g2 z5 keep => ⟨fun b o e => keep b o (S.keep b o e), ?_⟩
    let Y : Zs := ⟨s.heap.objs.size + 4, s.heap.objs.size + 2, s.heap.objs.size + 3, s.heap.objs.size, s.heap.objs.size + 1, [s.heap.objs.size, l1], [s.heap.objs.size + 1, l2], vs.toArray.size, us.toArray.size, fun i v => vs.toArray[i]? = some v, fun i v => us.toArray[i]? = some v,
      fun i h => h.IsListIter s.heap.objs.size l1 i ∧ h.IsList l1 vs.toArray, fun i h => h.IsListIter (s.heap.objs.size + 1) l2 i ∧ h.IsList l2 us.toArray⟩
    have O : ZOk prog w Y := ⟨fun A' hA => Draws.list hA _ l1 (fun e => k0 e.symm) _, fun A' hA => Draws.list hA _ l2 (fun e => m 1 e.symm) _, by
        show vs.toArray.size ≤ us.toArray.size
        have e1 : vs.toArray.size = xs.length := by rw [List.size_toArray, r1.length]
        have e2 : us.toArray.size = ys.length := by rw [List.size_toArray, r2.length]
        rw [e2, e1]; exact h1,
      by simp [Y], by simp [Y], by simp [Y, k 4], by simp [Y, m 4], by simp [Y, m0], by simp [Y, k 1], by simp [Y], by simp [Y], by simp [Y], by simp [Y, k 3], by simp [Y, m 3], by simp [Y], by simp [Y], by simp [Y], by simp [Y]⟩
    refine lz_tail (Y := Y) (s₁ := { s with heap := h' }) (xs := xs) (ys := ys) hh S O ⟨h', s.toks, rfl, keep⟩ ⟨g5, g3, ⟨_, _, g4⟩, ⟨g1, hL1.at fun o e => keep _ o e⟩, g2, hL2.at fun o e => keep _ o e⟩ ⟨by simp [Y], by simp [Y], by simp [Y], by simp [Y]⟩ ⟨by show s.heap.objs.size < h'.objs.size; (first | lia | omega), by show s.heap.objs.size + 1 < h'.objs.size; (first | lia | omega), fun c hc => ?_⟩ (by show s.heap.objs.size ≤ h'.objs.size; (first | lia | omega)) h0 (by simp [Y, r1.length]) h1 h2 (fun j v e => r1.get' (by simpa [Y] using e)) (second h') f q
    simp only [Y, List.cons_append, List.nil_append, List.mem_cons, List.not_mem_nil, or_false] at hc
    show c < h'.objs.size
    rw [z5]
    rcases hc with rfl | rfl | rfl | rfl
    · exact Nat.lt_add_of_pos_right (by decide)
    · exact kl
    · exact Nat.add_lt_add_left (by decide) _
    · exact ml
  cases hxs : a with
  | str X =>
    subst hxs
    cases va with
    | str _ t =>
      change (if X.cps.all (· < 128) = true then some (strSigns X) else none) = some xs at hx
      split at hx
      · rename_i ha
        cases hx
        refine call_zip_str ha hL2 fun h' g5 g3 g4 g1 g2 z5 keep => ⟨fun b o e => keep b o (S.keep b o e), ?_⟩
        let Y : Zs := ⟨s.heap.objs.size + 4, s.heap.objs.size + 2, s.heap.objs.size + 3, s.heap.objs.size, s.heap.objs.size + 1, [s.heap.objs.size], [s.heap.objs.size + 1, l2], X.cps.size, us.toArray.size, fun i v => ∃ c u, X.cps[i]? = some c ∧ v = .str ⟨#[c]⟩ u, fun i v => us.toArray[i]? = some v,
          fun i h => h.IsStrIter s.heap.objs.size "str_ascii_iterator" X t i, fun i h => h.IsListIter (s.heap.objs.size + 1) l2 i ∧ h.IsList l2 us.toArray⟩
        have O : ZOk prog w Y := ⟨fun A' hA => Draws.strAscii hA _ X t, fun A' hA => Draws.list hA _ l2 (fun e => m 1 e.symm) _, by
            show X.cps.size ≤ us.toArray.size
            have e1 : (strSigns X).length = X.cps.size := by simp [strSigns]
            have e2 : us.toArray.size = ys.length := by rw [List.size_toArray, r2.length]
            rw [e2, ← e1]; exact h1,
          by show s.heap.objs.size + 4 ≠ s.heap.objs.size; (first | lia | omega), by show s.heap.objs.size + 4 ≠ s.heap.objs.size + 1; (first | lia | omega), by simp [Y], by simp [Y, m 4], by simp [Y, m0], by simp [Y], by simp [Y], by simp [Y], by simp [Y], by simp [Y], by simp [Y, m 3], by simp [Y], by simp [Y], by simp [Y], by simp [Y]⟩
        refine lz_tail (Y := Y) (s₁ := { s with heap := h' }) (xs := strSigns X) (ys := ys) hh S O ⟨h', s.toks, rfl, keep⟩ ⟨g5, g3, ⟨_, _, g4⟩, g1, g2, hL2.at fun o e => keep _ o e⟩ ⟨by simp [Y], by simp [Y], by simp [Y], by simp [Y]⟩ ⟨by show s.heap.objs.size < h'.objs.size; (first | lia | omega), by show s.heap.objs.size + 1 < h'.objs.size; (first | lia | omega), fun c hc => ?_⟩ (by show s.heap.objs.size ≤ h'.objs.size; (first | lia | omega)) h0 (by simp [Y, strSigns]) h1 h2 ?_ (second h') f q
        · simp only [Y, List.cons_append, List.nil_append, List.mem_cons, List.not_mem_nil, or_false] at hc
          show c < h'.objs.size
          rw [z5]
          rcases hc with rfl | rfl | rfl
          · exact Nat.lt_add_of_pos_right (by decide)
          · exact Nat.add_lt_add_left (by decide) _
          · exact ml
        · rintro j v ⟨c, u, hc, rfl⟩
          exact ⟨.str ⟨#[c]⟩, by simp [strSigns, hc], .str _ u⟩
      · cases hx
  | _ => subst hxs; exact lists hx
/-- list(zip(e1, e2)) -/
theorem ev_listzip {p1 p2 q1 q2 : Pos} {e1 e2 : Expr} {f1 f2 : ET} (G : Gr K h₀) (l1 : nsIn K mainGlobals (Str.ofString "list") = some none) (l2 : nsIn K mainGlobals (Str.ofString "zip") = some none) (k1 : env.kindOf (Str.ofString "list") = some .globalImplicit) (k2 : env.kindOf (Str.ofString "zip") = some .globalImplicit) (hg : env.globals = mainGlobals) (hb : env.builtins = builtinsNs)
    (he1 : EvOk h₀ prog w n env e1 f1) (he2 : EvOk h₀ prog w n env e2 f2)
    (hs : starEach [.Call (.Name (Str.ofString "zip") p2) [e1, e2] [] q2] env = (false, eval (.Call (.Name (Str.ofString "zip") p2) [e1, e2] [] q2) env) :: starEach [] env)
    (hs2 : starEach [e1, e2] env = (false, eval e1 env) :: starEach [e2] env) (hs3 : starEach [e2] env = (false, eval e2 env) :: starEach [] env) (hp : (backTo q1 (starEach [] env)).any (·.1) = false) (hp2 : (backTo q2 (starEach [e2] env)).any (·.1) = false)
    (h1 : eval (.Call (.Name (Str.ofString "list") p1) [.Call (.Name (Str.ofString "zip") p2) [e1, e2] [] q2] [] q1) env = (do callWith q1 (← eval (.Name (Str.ofString "list") p1) env) [] (backTo q1 (starEach [.Call (.Name (Str.ofString "zip") p2) [e1, e2] [] q2] env)) (backToKw q1 (keywordEach [] env))))
    (h2 : eval (.Call (.Name (Str.ofString "zip") p2) [e1, e2] [] q2) env = (do callWith q2 (← eval (.Name (Str.ofString "zip") p2) env) [] (backTo q2 (starEach [e1, e2] env)) (backToKw q2 (keywordEach [] env)))) :
    EvOk h₀ prog w n env (.Call (.Name (Str.ofString "list") p1) [.Call (.Name (Str.ofString "zip") p2) [e1, e2] [] q2] [] q1) (fun σ Q => f1 σ fun a H₁ => f2 ⟨σ.loc, H₁⟩ fun b H₂ => zlW a b H₂ Q) := by
  intro A Z loc H s Q Q' E rm S f q
  refine Call_ (nm_list G l1 k1 hg hb A Z loc H s _ _ S ?_) h1
  have hes : EsOk h₀ prog w n env [e1, e2] (fun σ Q => f1 σ fun a H₁ => f2 ⟨σ.loc, H₁⟩ fun b H₂ => Q [a, b] H₂) := by
    intro A Z loc H s pos Q Q' E rm S f q
    exact (es_cons he1 (es_cons (fr := fun σ Q => Q [] σ.H) he2 es_nil hs3) hs2) A Z loc H s pos Q Q' E rm S f q
  have key : wpAny (model prog w) A (spliced (backTo q1 (starEach [.Call (.Name (Str.ofString "zip") p2) [e1, e2] [] q2] env))) (fun vs s₁ => (∀ b o, h₀.get? b = some o → s₁.heap.get? b = some o) ∧ wpAny (model prog w) A (call (.type "list") ([] ++ vs)) Q' E s₁) E s := by
    refine wpAny_items_cons ?_ hs
    refine Call_ (nm_zip G l2 k2 hg hb A Z loc H s _ _ S ?_) h2
    refine callWith_ok (first := []) (Q := fun ps H₂ => match ps with | [a, b] => zlW a b H₂ Q | _ => False) (kpr_type _) hes rm S f (fun vs ps Z' H' s' k v f' => ?_) hs2 hp2
    cases v with
    | nil => exact f'.elim
    | cons va r =>
      cases r with
      | nil => exact f'.elim
      | cons vb r =>
        cases r with
        | cons _ _ => exact f'.elim
        | nil =>
          refine wpAny_mono (lz_ok rm.hd k.sat va vb f' fun v p Z'' H'' s'' k' v' f'' => q _ _ _ _ _ (k.trans k') v' f'') (fun v s₁ hv => wpAny_items_nil hv) fun _ _ z => z
  rw [hs] at key ⊢
  exact callWith_of (P := fun h => ∀ b o, h₀.get? b = some o → h.get? b = some o) (by show ((false || (backTo q1 (starEach [] env)).any (·.1)) || false) = false; rw [hp]; rfl) (fun h k => kpr_type (h₀ := h₀) (prog := prog) (w := w) _ h k) (PySem.Calls.evalArgs_plain key)
end
end Mine
end
section
namespace Mine
theorem meets_part (x y : Str) (t u : Tok) (hy : (y.length == 0) = false) (hsz : x.length ≤ sizeLine) :
    Meets (Builtin.«str.partition» ⟨[.str x t, .str y u], []⟩) (fun _ R s =>
      match Builtin.Str.occurrences x y 0 x.length 1 with
      | i :: _ => R (.ok (.ret (.ref s.heap.objs.size))) { s with toks := s.toks + 1 + 1, heap := s.heap.push { cls := .type "tuple", data := .seq [.str (Builtin.Str.strSub x 0 i) s.toks, .str y u, .str (Builtin.Str.strSub x (i + y.length) x.length) (s.toks + 1)].toArray } }
      | [] => R (.ok (.ret (.ref s.heap.objs.size))) { s with toks := s.toks + 1, heap := s.heap.push { cls := .type "tuple", data := .seq [.str x t, .str Str.empty s.toks, .str Str.empty s.toks].toArray } }) := by
  obtain ⟨raising, htree⟩ := partition_tree x y t u
  refine .of_wp fun prog w A R s h => ?_
  rw [htree, hy]
  show wpAny _ _ (match Builtin.Str.occurrences x y 0 x.length 1 with
     | i :: _ => (do PySem.ret (← newTuple [← mkStr (Builtin.Str.strSub x 0 i), .str y u, ← mkStr (Builtin.Str.strSub x (i + y.length) x.length)]))
     | [] => (do rule "str.partition.not-found"; let empty ← mkStr Str.empty; PySem.ret (← newTuple [.str x t, empty, empty]))) _ _ s
  revert h
  cases Builtin.Str.occurrences x y 0 x.length 1 with
  | nil =>
    intro h
    exact wpAny_bind (wpAny_rule (wpAny_bind (wpAny_mkStr (wpAny_bind (wpAny_newTuple (wpAny_pure ⟨_, rfl, h⟩) (by show 3 ≤ sizeLine; decide))) (by decide))))
  | cons i r =>
    intro h
    exact wpAny_bind (wpAny_mkStr (wpAny_bind (wpAny_mkStr (wpAny_bind (wpAny_newTuple (wpAny_pure ⟨_, rfl, h⟩) (by show 3 ≤ sizeLine; decide))) (Nat.le_trans (strSub_length_le ..) hsz))) (Nat.le_trans (strSub_length_le ..) hsz))
section
variable {h₀ : Heap} {prog : Program} {w : World} {n : Nat} {env : Env}
noncomputable def partitionW (x : Str) (ps : List PV) (H : LH) (Q : PV → LH → Prop) : Prop :=
  ∃ y, ps = [.str y] ∧ (y.length == 0) = false ∧ x.length ≤ sizeLine ∧ Q (.tup [.str (Txt.partition x y).1, .str (Txt.partition x y).2.1, .str (Txt.partition x y).2.2]) H
theorem partition_ok (loc : Loc) (Z : Zm) (H : LH) (s : Shared) (x : Str) (t : Tok) (ps : List PV) (vs : List Value) (S : Sat h₀ Z env loc H s.heap) (v : VRs Z ps vs) : OpOk h₀ prog w n env loc Z H s (call (.builtin "str.partition") (.str x t :: vs)) (partitionW x ps H) := by
  rintro A Q Q' E rm ⟨y, rfl, hy, hsz, f⟩ q
  cases v with
  | cons a r =>
    cases r
    cases a with
    | str _ u =>
      refine call_meets F.slot_str_partition (typeIs_str _ _ _) F.entry_str_partition (F.args_str_partition_2 _ _) (meets_part x y t u hy hsz) ?_
      unfold Txt.partition at f
      cases ho : Builtin.Str.occurrences x y 0 x.length 1 with
      | nil =>
        rw [ho] at f
        have K := Ke.frozen (s' := { s with toks := s.toks + 1, heap := s.heap.push { cls := .type "tuple", data := .seq [.str x t, .str Str.empty s.toks, .str Str.empty s.toks].toArray } }) S ⟨_, _, rfl, fun _ _ e => Heap.get?_push_of_some _ e⟩ (get_size _) (Heap.get?_push_size _ rfl)
        exact q _ _ _ _ _ K (.tup (Zm.set_self _ _ _) (.cons (.str _ _) (.cons (.str _ _) (.cons (.str _ _) .nil)))) f
      | cons i r =>
        rw [ho] at f
        have K := Ke.frozen (s' := { s with toks := s.toks + 1 + 1, heap := s.heap.push { cls := .type "tuple", data := .seq [.str (Builtin.Str.strSub x 0 i) s.toks, .str y u, .str (Builtin.Str.strSub x (i + y.length) x.length) (s.toks + 1)].toArray } }) S ⟨_, _, rfl, fun _ _ e => Heap.get?_push_of_some _ e⟩ (get_size _) (Heap.get?_push_size _ rfl)
        exact q _ _ _ _ _ K (.tup (Zm.set_self _ _ _) (.cons (.str _ _) (.cons (.str _ _) (.cons (.str _ _) .nil)))) f
theorem ev_partition {o e : Expr} {apos pos : Pos} {rest : List Expr} {fo : ET} {F : EsT} (pl : Sem Bool) (ho : EvOk h₀ prog w n env o fo) (hes : EsOk h₀ prog w n env (e :: rest) F)
    (he : eval (.Call (.Attribute o (Str.ofString "partition") apos) (e :: rest) [] pos) env = (do
      let ov ← eval o env
      standAt apos.atName
      let (f, first) ← holding [ov] (getMethod ov (Str.ofString "partition") pl)
      callWith pos f first (backTo pos (starEach (e :: rest) env)) []))
    (hs : starEach (e :: rest) env = (false, eval e env) :: starEach rest env) (hp : (backTo pos (starEach rest env)).any (·.1) = false) :
    EvOk h₀ prog w n env (.Call (.Attribute o (Str.ofString "partition") apos) (e :: rest) [] pos) (fun σ Q => fo σ fun a H₁ => ∃ x, a = .str x ∧ F ⟨σ.loc, H₁⟩ fun ps H₂ => partitionW x ps H₂ Q) :=
  ev_smeth (id := "str.partition") (W := partitionW) pl (fun _ _ _ _ _ _ h => GM.partition h) partition_ok ho hes he hs hp
end
/-- at the first c -/
theorem partition_mk (p r : List Nat) (c : Nat) (h : c ∉ p) : Txt.partition (mkS (p ++ c :: r)) (mkS [c]) = (mkS p, mkS [c], mkS r) := by
  unfold Txt.partition
  have at_iff : ∀ i, PySem.StrLaws.At (mkS (p ++ c :: r)) (mkS [c]) (mkS (p ++ c :: r)).length i ↔ (p ++ c :: r)[i]? = some c := fun i => by
    have := PySem.StrLaws.subAt_one (mkS (p ++ c :: r)) c i
    rw [show (mkS (p ++ c :: r)).cps.toList = p ++ c :: r from by simp [mkS]] at this
    exact this
  rcases PySem.StrLaws.occ_head (mkS (p ++ c :: r)) (mkS [c]) 1 (Nat.le_refl _) with ⟨_, hn⟩ | ⟨i, rr, he, ha, hlt⟩
  · exact absurd ((at_iff p.length).mpr (by simp)) (hn _)
  · rw [he]
    have hi : i = p.length := by
      have h1 := (at_iff i).mp ha
      by_cases hlt' : i < p.length
      · rw [List.getElem?_append_left hlt'] at h1
        exact absurd (List.mem_of_getElem? h1) h
      · by_cases hgt : p.length < i
        · exact absurd ((at_iff p.length).mpr (by simp)) (hlt _ hgt)
        · (first | lia | omega)
    subst hi
    have e1 : Builtin.Str.strSub (mkS (p ++ c :: r)) 0 p.length = mkS p := by
      apply Str.ext'
      apply Array.toList_inj.mp
      rw [PySem.StrLaws.strSub_toList]; simp [mkS]
    have e2 : Builtin.Str.strSub (mkS (p ++ c :: r)) (p.length + (mkS [c]).length) (mkS (p ++ c :: r)).length = mkS r := by
      apply Str.ext'
      apply Array.toList_inj.mp
      rw [PySem.StrLaws.strSub_toList]
      simp only [mkS_len, List.length_cons, List.length_nil, List.length_append, Nat.zero_add]
      simp [mkS, List.drop_append]
      rw [List.drop_of_length_le (by (first | lia | omega))]
      simp
      exact List.take_of_length_le (by (first | lia | omega))
    simp only [e1, e2]
end Mine
end
section
namespace Mine
section
variable {h₀ : Heap} {prog : Program} {w : World} {n : Nat} {env : Env}
theorem st_forT {elts : List Expr} {tk0} {tpos : Pos} {it : Expr} {b : List Stmt} {pos : Pos} {fi : ET} {fa : PV → St → (St → Prop) → Prop} {fb : XT} (hi : EvOk h₀ prog w n env it fi) (ha : AsOk h₀ prog w env (.Tuple elts tk0 tpos) fa) (hf : ∀ p σ Q, fa p σ Q → ∃ ps, p = .tup ps) (hb : XsOk h₀ prog w n env b fb)
    (hs : ∀ x, foldedSetIterable it env x = pure x := by intro _; rfl) :
    ExOk h₀ prog w n env (.For (.Tuple elts tk0 tpos) it b [] pos) (fun σ Q => fi σ fun a H₁ => ∃ xs, a = .lst xs ∧ forW fa fb xs ⟨σ.loc, H₁⟩ Q) := by
  intro A Z loc H s Q Q' E rm S f q
  refine wpAny_For (hi A Z loc H s _ _ _ rm S f fun x a Z₁ H₁ s₁ k₁ va f₁ => ?_) hs
  obtain ⟨xs, rfl, f₁⟩ := f₁
  cases va with
  | lst zl rl =>
  rename_i l vs kl
  have ho := k₁.sat.frz _ _ zl
  have hl : s₁.heap.IsList l vs.toArray := ⟨_, ho, rfl, _, rfl⟩
  refine wpAny_pyIter_list hl ?_
  have hne : l ≠ s₁.heap.objs.size := Nat.ne_of_lt (Heap.lt_size ho)
  have W0 := Walks.list (prog := prog) (w := w) rm.hd s₁.heap.objs.size l hne vs.toArray
  have hn0 : vs.toArray.size = xs.length := by rw [List.size_toArray, rl.length]
  rw [hn0] at W0
  have Wk : Wk prog w A Z₁ xs s₁.heap.objs.size _ _ _ _ := ⟨W0, fun i v hp => rl.get' (by simpa using hp)⟩
  have hI : s₁.heap.get? s₁.heap.objs.size = none := get_size _
  have kp := Kp.push s₁ { cls := .type "list_iterator", data := .fields #[.ref l, .int 0 0] }
  have hst : (s₁.heap.push { cls := .type "list_iterator", data := .fields #[.ref l, .int 0 0] }).IsListIter s₁.heap.objs.size l 0 ∧ (s₁.heap.push { cls := .type "list_iterator", data := .fields #[.ref l, .int 0 0] }).IsList l vs.toArray := ⟨⟨_, Heap.get?_push_size _ rfl, rfl, rfl⟩, hl.at fun o e => Heap.get?_push_of_some _ e⟩
  refine for_core rm S k₁ (fun b hb hne => ?_) Wk kp hst hI (fun i h st => let ⟨o, ho, _⟩ := st.1; ⟨o, ho⟩) rfl ha hb (lo_tup hf fun i h st => ⟨_, _, st.1⟩) f₁ q
  rcases List.mem_cons.mp hb with h | h
  · exact absurd h hne
  · rw [List.mem_singleton.mp h]; exact ⟨_, zl⟩
end
end Mine
end
section
namespace Mine
section
variable {K : Frag} {h₀ : Heap} {prog : Program} {w : World} {n : Nat} {env : Env}
variable {loc : Loc} {Z Z' : Zm} {H H' : LH} {s s' : Shared} {I D C : Addr} {ps : List PV}
theorem ev_compT {elt iter : Expr} {elts : List Expr} {x1} {tp : Pos} {scope : Scope} {cl : List (Str × Addr)} {caps : List String} {pos : Pos} {fi : ET} {fa : PV → St → (St → Prop) → Prop} {fe : ET}
    (hi : EvOk h₀ prog w n env iter fi) (hclos : closureFor scope env = pure cl) (cp : Caps env scope cl caps) (hcell : ∀ y ∈ scope.names, y.2 ≠ .cell) (hnames : ∀ y ∈ scope.names, y.2 = .local → scope.names.lookup y.1 = some .local)
    (ha : ∀ C, AcOk h₀ prog w (compEnvC scope cl C env) (.Tuple elts x1 tp) fa) (hf : ∀ p σ Q, fa p σ Q → ∃ ps, p = .tup ps) (he : ∀ C, EvOk h₀ prog w n (compEnvC scope cl C env) elt fe)
    (hs : ∀ x, foldedSetIterable iter env x = pure x := by intro _; rfl) :
    EvOk h₀ prog w n env (.ListComp elt [⟨.Tuple elts x1 tp, iter, [], 0⟩] scope pos) (fun σ Q => fi σ fun a H₁ => ∃ xs, a = .lst xs ∧ xs.length ≤ sizeLine ∧ compW fa (fun σ Q => Q true σ.H) fe (capLoc caps σ.loc) xs [] H₁ fun ps H₂ => listW ps H₂ Q) := by
  intro A Z loc H s Q Q' E rm S f q
  rw [eval_ListComp]
  refine wpAny_comprehension_free (use := none) rfl hs hclos cp.kind hnames (hi A Z loc H s _ _ _ rm S f fun x a Z₁ H₁ s₁ k₁ va f₁ => ?_)
  obtain ⟨xs, rfl, hsz, f₁⟩ := f₁
  have va0 := va
  cases va with
  | lst zl rl =>
  rename_i l vs kl
  have ho := k₁.sat.frz _ _ zl
  have hl : s₁.heap.IsList l vs.toArray := ⟨_, ho, rfl, _, rfl⟩
  refine wpAny_pyIter_list hl ?_
  have hne : l ≠ s₁.heap.objs.size := Nat.ne_of_lt (Heap.lt_size ho)
  have W0 := Walks.list (prog := prog) (w := w) rm.hd s₁.heap.objs.size l hne vs.toArray
  have hn0 : vs.toArray.size = xs.length := by rw [List.size_toArray, rl.length]
  rw [hn0] at W0
  have Wk : Wk prog w A Z₁ xs s₁.heap.objs.size _ _ _ _ := ⟨W0, fun i v hp => rl.get' (by simpa using hp)⟩
  refine comp_loop (RR := fun acc C => compPost (model prog w) A E none Q' acc C) rm k₁ S va0 (show iterOf H₁ (.lst xs) = some xs from rfl) hsz Wk (Kp.push _ _) ⟨⟨_, Heap.get?_push_size _ rfl, rfl, rfl⟩, hl.at fun o e => Heap.get?_push_of_some _ e⟩ (get_size _) (fun _ _ st => let ⟨o, e, _⟩ := st.1; ⟨o, e⟩) rfl (fun b hb => ?_) cp hcell ha (fun C => ts_nil) (fun C => (he C).at) (lo_tup hf fun i h st => ⟨_, _, st.1⟩) f₁ ?_
  · rcases List.mem_cons.mp hb with h | h
    · exact .inl h
    · exact .inr (by rw [List.mem_singleton.mp h])
  intro D C Z' H' ps s₃ c fq
  obtain ⟨m, hm⟩ := c.ns
  exact ⟨m, hm, fun h' hs' => c.done S (fun b o hb e => hs'.extBut b o hb e) fq q⟩
end
end Mine
end
section
namespace Mine
section
variable {h₀ : Heap} {prog : Program} {w : World} {n : Nat} {env : Env}
/-- a subscript's tail, the value at hand -/
theorem sub_ok {value i : Expr} {fi : ET} {A : Around} {Z : Zm} {loc : Loc} {H : LH} {s : Shared} {a : PV} {x : Value} {Q : PV → LH → Prop} {Q' : Value → Shared → Prop} {E : Value → Shared → Prop} (hi : EvOk h₀ prog w n env i fi) (rm : Rm n A) (S : Sat h₀ Z env loc H s.heap) (va : VR Z a x) (f : fi ⟨loc, H⟩ fun b H₂ => idxW a b H₂ Q)
    (q : ∀ v p Z' H' s', Ke h₀ env loc Z H s Z' H' s' → VR Z' p v → Q p H' → Q' v s') (hs : ∀ o v, subscripted i false o v = operate [o, v] (getItem o v)) :
    wpAny (model prog w) A (eval i env) (fun y s₂ => wpAny (model prog w) A (subscriptTail value i x y) Q' E s₂) E s := by
  refine hi A Z loc H s _ _ _ rm S f fun y b Z₂ H₂ s₂ k₂ vb f₂ => ?_
  obtain ⟨⟨T, id, hT, hl⟩, hg⟩ := getItem_ok (prog := prog) (w := w) (A := A) (Q' := Q') (E := E) k₂.sat (va.mono k₂.fz.1) vb f₂ fun v p tk hv hq => q _ _ _ _ _ (k₂.trans (Ke.toks k₂.sat tk)) hv hq
  exact tail_any hT hl hg (hs _ _)
end
end Mine
end
section
namespace Mine
/-- a sign written: the row so far, the column -/
noncomputable def fillStep (size : Int) (st : List Nat × Nat) (c : Nat) : List Nat × Nat :=
  if c = 9 then (if 0 < size then (st.1 ++ List.replicate (size.toNat - st.2 % size.toNat) 9, st.2 + (size.toNat - st.2 % size.toNat)) else st)
  else (st.1 ++ [c], if c = 10 ∨ c = 13 then 0 else st.2 + 1)
noncomputable def fillRow (size : Int) (line : List Nat) : List Nat × Nat := line.foldl (fillStep size) ([], 0)
/-- no newlines at the end -/
noncomputable def chomp (l : List Nat) : List Nat := (l.reverse.dropWhile (· == 10)).reverse
noncomputable def filled (size : Int) (line : List Nat) : List Nat := chomp (fillRow size line).1
theorem chomp_snoc_nl (l : List Nat) : chomp (l ++ [10]) = chomp l := by simp [chomp]
theorem chomp_snoc {c : Nat} (l : List Nat) (h : c ≠ 10) : chomp (l ++ [c]) = l ++ [c] := by simp [chomp, h]
end Mine
end
section
namespace Mine
noncomputable def swap1 (a b k : Nat) : Nat := if k = a then b else k
theorem swap_free (a b : Nat) : ∀ l : List Nat, a ∉ l → l.map (swap1 a b) = l
  | [], _ => rfl
  | k :: r, h => by
    have h1 : k ≠ a := fun e => h (by rw [e]; exact List.mem_cons_self)
    rw [List.map_cons, swap_free a b r fun m => h (List.mem_cons_of_mem _ m)]
    simp [swap1, h1]
theorem swap_join (a b : Nat) : ∀ parts : List Str, (∀ p ∈ parts, a ∉ p.cps.toList) → (Str.join ⟨#[a]⟩ parts).cps.toList.map (swap1 a b) = (Str.join ⟨#[b]⟩ parts).cps.toList
  | [], _ => rfl
  | [p], h => swap_free a b _ (h p (List.mem_singleton.mpr rfl))
  | p :: q :: r, h => by
    have ih := swap_join a b (q :: r) fun c hc => h c (List.mem_cons_of_mem _ hc)
    show (p ++ ⟨#[a]⟩ ++ Str.join ⟨#[a]⟩ (q :: r)).cps.toList.map (swap1 a b) = (p ++ ⟨#[b]⟩ ++ Str.join ⟨#[b]⟩ (q :: r)).cps.toList
    simp only [Str.cps_append, Array.toList_append, List.map_append]
    rw [ih, swap_free a b _ (h p (List.mem_cons_self ..))]
    simp [swap1]
theorem replace_swap (x : Str) (a b : Nat) : (Txt.replace x ⟨#[a]⟩ ⟨#[b]⟩).cps.toList = x.cps.toList.map (swap1 a b) := by
  rw [StrLaws.replace_one, ← swap_join a b _ (StrLaws.split_free x a), StrLaws.join_split]
theorem replace_len (x : Str) (a b : Nat) : (Txt.replace x ⟨#[a]⟩ ⟨#[b]⟩).length = x.length := by
  have := congrArg List.length (replace_swap x a b)
  simpa [Str.length] using this
theorem chomp_takeWhile (l : List Nat) : chomp l = l.take (l.length - (l.reverse.takeWhile (· == 10)).length) := by
  unfold chomp
  have h := List.takeWhile_append_dropWhile (p := (· == 10)) (l := l.reverse)
  have h2 : l = (l.reverse.dropWhile (· == 10)).reverse ++ (l.reverse.takeWhile (· == 10)).reverse := by
    rw [← List.reverse_append, h, List.reverse_reverse]
  have h3 : l.length = (l.reverse.dropWhile (· == 10)).length + (l.reverse.takeWhile (· == 10)).length := by
    have := congrArg List.length h2; simpa using this
  conv => rhs; rw [h3, Nat.add_sub_cancel]
  conv => rhs; arg 2; rw [h2]
  rw [List.take_append_of_le_length (by simp)]
  rw [List.take_of_length_le (by simp)]
theorem rstrip_nl (x : Str) : (Txt.rstripChars x ⟨#[10]⟩).cps.toList = chomp x.cps.toList := by
  unfold Txt.rstripChars
  rw [W.stripBy_eq]
  unfold W.stripped
  simp only [Bool.false_eq_true, if_false, if_true, List.drop_zero]
  have e : ((⟨#[10]⟩ : Str).cps.contains : Nat → Bool) = (fun c : Nat => c == 10) := by
    funext c
    show (#[10] : Array Nat).contains c = (c == 10)
    rw [Bool.eq_iff_iff]; simp
  rw [e, chomp_takeWhile]
  unfold Builtin.Str.strSub
  have : x.length = x.cps.toList.length := by simp [Str.length]
  rw [this]
  simp
noncomputable def expandS (size : Int) (line : Str) : Str := Txt.rstripChars (Txt.replace (Txt.replace (xtTab size (Txt.replace line ⟨#[32]⟩ ⟨#[0]⟩)) ⟨#[32]⟩ ⟨#[9]⟩) ⟨#[0]⟩ ⟨#[32]⟩) ⟨#[10]⟩
theorem fold_fill (size : Int) : ∀ (l : List Nat) (st : List Nat × Nat) (out : Array Nat) (hl : 0 ∉ l), (out.toList.map (swap1 32 9)).map (swap1 0 32) = st.1 →
    (((l.map (swap1 32 0)).foldl (xtStep size) (out, st.2)).1.toList.map (swap1 32 9)).map (swap1 0 32) = (l.foldl (fillStep size) st).1
  | [], st, out, _, h => h
  | c :: l, st, out, hl, h => by
    have h0 : c ≠ 0 := fun e => hl (by rw [e]; exact List.mem_cons_self)
    have hl' : 0 ∉ l := fun m => hl (List.mem_cons_of_mem _ m)
    rw [List.map_cons, List.foldl_cons, List.foldl_cons]
    by_cases h9 : c = 9
    · subst h9
      have e1 : xtStep size (out, st.2) (swap1 32 0 9) = (out ++ Array.replicate (xtB size st.2) 32, st.2 + xtB size st.2) := rfl
      by_cases hs : 0 < size
      · have e2 : fillStep size st 9 = (st.1 ++ List.replicate (xtB size st.2) 9, st.2 + xtB size st.2) := by
          unfold fillStep xtB; rw [if_pos rfl, if_pos hs, if_pos hs]
        rw [e1, e2]
        refine fold_fill size l (st.1 ++ List.replicate (xtB size st.2) 9, st.2 + xtB size st.2) _ hl' ?_
        simp only [Array.toList_append, List.map_append, h, Array.toList_replicate, List.map_replicate]
        rfl
      · have eb : xtB size st.2 = 0 := by unfold xtB; rw [if_neg hs]
        have e2 : fillStep size st 9 = st := by unfold fillStep; rw [if_pos rfl, if_neg hs]
        rw [e1, e2, eb]
        refine fold_fill size l st _ hl' ?_
        simp only [Array.toList_append, List.map_append, h, Array.toList_replicate, List.map_replicate]
        simp
    · have e2 : fillStep size st c = (st.1 ++ [c], if c = 10 ∨ c = 13 then 0 else st.2 + 1) := by unfold fillStep; rw [if_neg h9]
      by_cases h32 : c = 32
      · subst h32
        have e1 : xtStep size (out, st.2) (swap1 32 0 32) = (out.push 0, st.2 + 1) := rfl
        rw [e1, e2]
        refine fold_fill size l (st.1 ++ [32], st.2 + 1) _ hl' ?_
        simp only [Array.toList_push, List.map_append, h]
        rfl
      · have es : swap1 32 0 c = c := by unfold swap1; rw [if_neg h32]
        have e1 : xtStep size (out, st.2) c = (out.push c, if c = 10 ∨ c = 13 then 0 else st.2 + 1) := by unfold xtStep; rw [if_neg h9]
        rw [es, e1, e2]
        refine fold_fill size l (st.1 ++ [c], _) _ hl' ?_
        simp only [Array.toList_push, List.map_append, h]
        simp [swap1, h32, h0]
theorem expandS_eq (size : Int) (line : Str) (h : 0 ∉ line.cps.toList) : expandS size line = mkS (filled size line.cps.toList) := by
  have key : (expandS size line).cps.toList = filled size line.cps.toList := by
    unfold expandS filled
    rw [rstrip_nl, replace_swap, replace_swap]
    congr 1
    unfold xtTab
    simp only [replace_swap]
    exact fold_fill size line.cps.toList ([], 0) #[] h rfl
  rw [← key]; rfl
end Mine
end
section
namespace Mine
theorem toList_mk (l : List Nat) : (mkS l).cps.toList = l := by simp [mkS]
theorem count_mk (l : List Nat) (c : Nat) : Txt.count (mkS l) (mkS [c]) = (l.count c : Int) := by
  show Txt.count (mkS l) ⟨#[c]⟩ = _
  rw [PyProof.Rows.count_cnt, toList_mk]
  induction l with
  | nil => rfl
  | cons a r ih =>
    rw [cnt_cons, ih, List.count_cons]
    by_cases h : a = c
    · simp [h]; (first | lia | omega)
    · simp [h]
/-- the parts between the c's -/
noncomputable def spl (c : Nat) : List Nat → List (List Nat)
  | [] => [[]]
  | x :: r => if x = c then [] :: spl c r else match spl c r with
    | p :: ps => (x :: p) :: ps
    | [] => [[x]]
theorem spl_free (c : Nat) : ∀ p : List Nat, c ∉ p → spl c p = [p]
  | [], _ => rfl
  | x :: r, h => by
    simp only [List.mem_cons, not_or] at h
    unfold spl
    rw [if_neg (Ne.symm h.1), spl_free c r h.2]
theorem spl_app (c : Nat) (q : List Nat) : ∀ p : List Nat, c ∉ p → spl c (p ++ c :: q) = p :: spl c q
  | [], _ => by show spl c (c :: q) = _; conv => lhs; unfold spl
                rw [if_pos rfl]
  | x :: r, h => by
    simp only [List.mem_cons, not_or] at h
    show spl c (x :: (r ++ c :: q)) = _
    conv => lhs; unfold spl
    rw [if_neg (Ne.symm h.1), spl_app c q r h.2]
theorem spl_join (c : Nat) : ∀ parts : List Str, parts ≠ [] → (∀ p ∈ parts, c ∉ p.cps.toList) → spl c (Str.join ⟨#[c]⟩ parts).cps.toList = parts.map (·.cps.toList)
  | [], h, _ => absurd rfl h
  | [x], _, h => by
    show spl c x.cps.toList = _
    rw [spl_free c _ (h x List.mem_cons_self)]; rfl
  | x :: y :: r, _, h => by
    show spl c ((x ++ ⟨#[c]⟩ ++ Str.join ⟨#[c]⟩ (y :: r)).cps.toList) = _
    rw [Str.cps_append, Str.cps_append]
    simp only [Array.toList_append, List.append_assoc]
    have : (#[c] : Array Nat).toList ++ (Str.join ⟨#[c]⟩ (y :: r)).cps.toList = c :: (Str.join ⟨#[c]⟩ (y :: r)).cps.toList := by simp
    rw [this, spl_app c _ _ (h x List.mem_cons_self), spl_join c (y :: r) (by simp) fun p hp => h p (List.mem_cons_of_mem _ hp)]
    rfl
theorem split_ne (x y : Str) : Txt.split x y ≠ [] := by
  unfold Txt.split
  split
  · simp
  · split
    · simp
    · rw [PySem.StrLaws.partsBetween_eq]
      obtain ⟨p, r, e⟩ := PySem.StrLaws.partsFrom_ne x y.length 0 (Builtin.Str.occurrences x y 0 x.length (x.length + 1))
      rw [e]; simp
theorem split_mk (l : List Nat) (c : Nat) : Txt.split (mkS l) (mkS [c]) = (spl c l).map mkS := by
  have h1 := PySem.StrLaws.join_split (mkS l) ⟨#[c]⟩
  have h2 := PySem.StrLaws.split_free (mkS l) c
  have h3 := spl_join c _ (split_ne _ _) h2
  rw [h1, toList_mk] at h3
  rw [h3, List.map_map]
  show Txt.split (mkS l) ⟨#[c]⟩ = _
  conv => lhs; rw [← List.map_id (Txt.split (mkS l) ⟨#[c]⟩)]
  exact List.map_congr_left fun p _ => rfl
theorem partsFrom_len (x : Str) (w : Nat) : ∀ (cuts : List Nat) (a : Nat), (PySem.StrLaws.partsFrom x w a cuts).length = cuts.length + 1
  | [], _ => rfl
  | c :: r, a => by
    show (_ :: PySem.StrLaws.partsFrom x w (c + w) r).length = _
    rw [List.length_cons, partsFrom_len x w r]; rfl
theorem split_W {H : LH} {Q : PV → LH → Prop} {l : List Nat} {c : Nat} (hl : l.length ≤ 100000) (h : listW ((spl c l).map fun p => .str (mkS p)) H Q) : splitW (mkS l) [.str (mkS [c])] H Q := by
  refine ⟨_, rfl, by rw [mkS_len]; rfl, by rw [mkS_len, sizeLine_eq]; (first | lia | omega), ?_, ?_⟩
  · rw [PySem.StrLaws.partsBetween_eq, partsFrom_len]
    have := PySem.StrLaws.occ_length_le (mkS l) (mkS [c]) 0 (mkS l).length ((mkS l).length + 1)
    rw [mkS_len] at this ⊢
    rw [sizeLine_eq]; (first | lia | omega)
  · rw [split_mk, List.map_map]; exact h
theorem count_W {H : LH} {Q : PV → LH → Prop} {l : List Nat} {c : Nat} (h : Q (.int (l.count c : Nat)) H) : countW (mkS l) [.str (mkS [c])] H Q := ⟨_, rfl, by rw [count_mk]; exact h⟩
/-- what a marked text is made of: a mark opened, a mark closed, a sign -/
inductive Tk where
  | op (m : Nat)
  | cl
  | sg (c : Nat)
noncomputable def Tk.f : Tk → List Nat
  | .op m => [0, m]
  | .cl => [1]
  | .sg c => [c]
noncomputable def flat : List Tk → List Nat
  | [] => []
  | t :: T => t.f ++ flat T
theorem flat_app (A B : List Tk) : flat (A ++ B) = flat A ++ flat B := by
  induction A with
  | nil => rfl
  | cons t A ih => show t.f ++ flat (A ++ B) = t.f ++ flat A ++ flat B; rw [ih, List.append_assoc]
noncomputable def vis : List Tk → Nat
  | [] => 0
  | .sg _ :: T => vis T + 1
  | _ :: T => vis T
theorem vis_app (A B : List Tk) : vis (A ++ B) = vis A + vis B := by
  induction A with
  | nil => simp [vis]
  | cons t A ih => cases t <;> simp [vis, ih]; (first | lia | omega)
/-- the mark behind A, m the mark ahead of it -/
noncomputable def mkF (m : List Nat) : List Tk → List Nat
  | [] => m
  | .op k :: T => mkF [k] T
  | .cl :: T => mkF [] T
  | .sg _ :: T => mkF m T
theorem mkF_app (m : List Nat) (A B : List Tk) : mkF m (A ++ B) = mkF (mkF m A) B := by
  induction A generalizing m with
  | nil => rfl
  | cons t A ih => cases t <;> exact ih _
/-- marks are opened and closed in turn -/
noncomputable def PW (m : List Nat) : List Tk → Prop
  | [] => True
  | .op k :: T => m = [] ∧ 2 ≤ k ∧ PW [k] T
  | .cl :: T => m ≠ [] ∧ PW [] T
  | .sg c :: T => 2 ≤ c ∧ PW m T
theorem PW_app (m : List Nat) (A B : List Tk) : PW m (A ++ B) ↔ PW m A ∧ PW (mkF m A) B := by
  induction A generalizing m with
  | nil => simp [PW, mkF]
  | cons t A ih => cases t <;> simp [PW, mkF, ih, and_assoc]
noncomputable def pre (m : List Nat) : List Nat := match m with | [] => [] | m => 0 :: m
noncomputable def post (m : List Nat) : List Nat := match m with | [] => [] | _ => [1]
noncomputable def preT (m : List Nat) : List Tk := match m with | [] => [] | k :: _ => [.op k]
noncomputable def one (m : List Nat) : Nat := match m with | [] => 0 | _ => 1
/-- the tokens up to the k-th sign, and those behind it -/
noncomputable def cutA : Nat → List Tk → List Tk
  | 0, _ => []
  | _ + 1, [] => []
  | k + 1, .sg c :: T => .sg c :: cutA k T
  | k + 1, t :: T => t :: cutA (k + 1) T
noncomputable def cutB : Nat → List Tk → List Tk
  | 0, T => T
  | _ + 1, [] => []
  | k + 1, .sg _ :: T => cutB k T
  | k + 1, _ :: T => cutB (k + 1) T
theorem cutB_nil : ∀ k, cutB k [] = []
  | 0 => rfl
  | _ + 1 => rfl
theorem cutA_nil : ∀ k, cutA k [] = []
  | 0 => rfl
  | _ + 1 => rfl
theorem cut_app (k : Nat) (T : List Tk) : cutA k T ++ cutB k T = T := by
  induction T generalizing k with
  | nil => cases k <;> rfl
  | cons t T ih =>
    cases k with
    | zero => rfl
    | succ k => cases t <;> simp [cutA, cutB, ih]
theorem vis_cutA (k : Nat) (T : List Tk) (h : k ≤ vis T) : vis (cutA k T) = k := by
  induction T generalizing k with
  | nil => cases k with
    | zero => rfl
    | succ k => simp [vis] at h
  | cons t T ih =>
    cases k with
    | zero => rfl
    | succ k =>
      cases t with
      | sg c => simp only [vis] at h; simp only [cutA, vis, ih k (by (first | lia | omega))]
      | op m => simp only [vis] at h; simp only [cutA, vis, ih _ h]
      | cl => simp only [vis] at h; simp only [cutA, vis, ih _ h]
theorem vis_cutB (k : Nat) (T : List Tk) (h : k ≤ vis T) : vis (cutB k T) = vis T - k := by
  have h1 := vis_cutA k T h
  have h2 := congrArg vis (cut_app k T)
  rw [vis_app] at h2; (first | lia | omega)
theorem cutB_add (j k : Nat) (T : List Tk) : cutB (j + k) T = cutB k (cutB j T) := by
  induction T generalizing j with
  | nil => rw [cutB_nil, cutB_nil, cutB_nil]
  | cons t T ih =>
    cases j with
    | zero => rw [Nat.zero_add]; rfl
    | succ j =>
      rw [show j + 1 + k = (j + k) + 1 from by (first | lia | omega)]
      cases t with
      | sg c => exact ih j
      | op m => show cutB (j + k + 1) T = cutB k (cutB (j + 1) T); rw [← ih (j + 1)]; congr 1; (first | lia | omega)
      | cl => show cutB (j + k + 1) T = cutB k (cutB (j + 1) T); rw [← ih (j + 1)]; congr 1; (first | lia | omega)
theorem cutA_add (j k : Nat) (T : List Tk) : cutA (j + k) T = cutA j T ++ cutA k (cutB j T) := by
  induction T generalizing j with
  | nil => rw [cutA_nil, cutB_nil, cutA_nil, cutA_nil]; rfl
  | cons t T ih =>
    cases j with
    | zero => rw [Nat.zero_add]; rfl
    | succ j =>
      rw [show j + 1 + k = (j + k) + 1 from by (first | lia | omega)]
      have e : j + k + 1 = j + 1 + k := by (first | lia | omega)
      cases t with
      | sg c => show Tk.sg c :: cutA (j + k) T = Tk.sg c :: (cutA j T ++ cutA k (cutB j T)); rw [ih j]
      | op m => show Tk.op m :: cutA (j + k + 1) T = Tk.op m :: (cutA (j + 1) T ++ cutA k (cutB (j + 1) T)); rw [← ih (j + 1), e]
      | cl => show Tk.cl :: cutA (j + k + 1) T = Tk.cl :: (cutA (j + 1) T ++ cutA k (cutB (j + 1) T)); rw [← ih (j + 1), e]
/-- counts -/
theorem count_op {k : Nat} (h : 2 ≤ k) (A : List Tk) : (flat (.op k :: A)).count 0 = (flat A).count 0 + 1 ∧ (flat (.op k :: A)).count 1 = (flat A).count 1 := by
  have e0 : k ≠ 0 := by (first | lia | omega)
  have e1 : k ≠ 1 := by (first | lia | omega)
  simp [flat, Tk.f, List.count_cons, e0, e1]
theorem count_cl (A : List Tk) : (flat (.cl :: A)).count 0 = (flat A).count 0 ∧ (flat (.cl :: A)).count 1 = (flat A).count 1 + 1 := by
  simp [flat, Tk.f, List.count_cons]
theorem count_sg {k : Nat} (h : 2 ≤ k) (A : List Tk) : (flat (.sg k :: A)).count 0 = (flat A).count 0 ∧ (flat (.sg k :: A)).count 1 = (flat A).count 1 := by
  have e0 : k ≠ 0 := by (first | lia | omega)
  have e1 : k ≠ 1 := by (first | lia | omega)
  simp [flat, Tk.f, List.count_cons, e0, e1]
theorem len_op (k : Nat) (A : List Tk) : (flat (.op k :: A)).length = (flat A).length + 2 := by simp [flat, Tk.f]
theorem len_cl (A : List Tk) : (flat (.cl :: A)).length = (flat A).length + 1 := by simp [flat, Tk.f]
theorem len_sg (k : Nat) (A : List Tk) : (flat (.sg k :: A)).length = (flat A).length + 1 := by simp [flat, Tk.f]
theorem one_cons (k : Nat) (l : List Nat) : one (k :: l) = 1 := rfl
theorem one_nil : one [] = 0 := rfl
theorem one_ne {m : List Nat} (h : m ≠ []) : one m = 1 := by cases m with | nil => exact absurd rfl h | cons _ _ => rfl
theorem flat_bal (m : List Nat) (A : List Tk) (h : PW m A) : (flat A).count 0 + one m = (flat A).count 1 + one (mkF m A) := by
  induction A generalizing m with
  | nil => simp [flat, mkF]
  | cons t A ih =>
    cases t with
    | op k =>
      obtain ⟨rfl, h2, h3⟩ := h
      have := ih [k] h3
      rw [(count_op h2 A).1, (count_op h2 A).2]
      rw [one_cons] at this
      simp only [mkF, one_nil]; (first | lia | omega)
    | cl =>
      obtain ⟨h1, h3⟩ := h
      have := ih [] h3
      rw [(count_cl A).1, (count_cl A).2, one_ne h1]
      rw [one_nil] at this
      simp only [mkF]; (first | lia | omega)
    | sg c =>
      obtain ⟨h1, h3⟩ := h
      have := ih m h3
      rw [(count_sg h1 A).1, (count_sg h1 A).2]
      simp only [mkF]; (first | lia | omega)
theorem flat_len (m : List Nat) (A : List Tk) (h : PW m A) : (flat A).length = vis A + 2 * (flat A).count 0 + (flat A).count 1 := by
  induction A generalizing m with
  | nil => simp [flat, vis]
  | cons t A ih =>
    cases t with
    | op k =>
      obtain ⟨rfl, h2, h3⟩ := h
      have := ih [k] h3
      rw [(count_op h2 A).1, (count_op h2 A).2, len_op]
      simp only [vis]; (first | lia | omega)
    | cl =>
      obtain ⟨h1, h3⟩ := h
      have := ih [] h3
      rw [(count_cl A).1, (count_cl A).2, len_cl]
      simp only [vis]; (first | lia | omega)
    | sg c =>
      obtain ⟨h1, h3⟩ := h
      have := ih m h3
      rw [(count_sg h1 A).1, (count_sg h1 A).2, len_sg]
      simp only [vis]; (first | lia | omega)
theorem mkF_len (m : List Nat) (A : List Tk) (hm : m.length ≤ 1) : (mkF m A).length ≤ 1 := by
  induction A generalizing m with
  | nil => exact hm
  | cons t A ih => cases t <;> exact ih _ (by simp [hm])
/-- signs seen so far -/
noncomputable def sn (l : List Nat) : Int := (l.length : Int) - 2 * (l.count 0 : Nat) - (l.count 1 : Nat)
end Mine
end
section
namespace Mine
noncomputable def pcs (w : Nat) : Nat → List Nat → List Tk → List (List Nat)
  | 0, m, B => [pre m ++ flat B]
  | f + 1, m, B => if vis B ≤ w then [pre m ++ flat B] else (pre m ++ flat (cutA w B) ++ post (mkF m (cutA w B))) :: pcs w f (mkF m (cutA w B)) (cutB w B)
/-- the cuts of the law's -/
noncomputable def atk (w M : Nat) (T : List Tk) (n : Nat) : List Tk := if n ≤ M then cutA (n * w) T else T
noncomputable def pcn (w M : Nat) (T : List Tk) (n : Nat) : List Nat :=
  pre (mkF [] (atk w M T n)) ++ ((flat T).drop (flat (atk w M T n)).length).take ((flat (atk w M T (n + 1))).length - (flat (atk w M T n)).length) ++ post (mkF [] (atk w M T (n + 1)))
theorem pcn_eq (w M : Nat) (T D : List Tk) (n : Nat) (R : List Tk) (h1 : atk w M T (n + 1) = atk w M T n ++ D) (h2 : T = atk w M T (n + 1) ++ R) :
    pcn w M T n = pre (mkF [] (atk w M T n)) ++ flat D ++ post (mkF [] (atk w M T n ++ D)) := by
  unfold pcn
  rw [← h1]
  congr 2
  have e : flat T = flat (atk w M T n) ++ (flat D ++ flat R) := by
    conv => lhs; rw [h2, h1]
    rw [flat_app, flat_app, List.append_assoc]
  rw [e, List.drop_left, h1, flat_app, List.length_append, Nat.add_sub_cancel_left, List.take_left]
theorem pcs_law (w M : Nat) (T : List Tk) (hw : 1 ≤ w) (hM1 : M = 0 ∨ M * w < vis T) (hM2 : vis T ≤ (M + 1) * w) (hc : mkF [] T = []) : ∀ f n, n ≤ M → M - n ≤ f →
    pcs w f (mkF [] (cutA (n * w) T)) (cutB (n * w) T) = (List.range' n (M + 1 - n)).map (pcn w M T) := by
  have hle : ∀ n, n ≤ M → n * w ≤ vis T := fun n hn => by
    rcases hM1 with h | h
    · have : n = 0 := by (first | lia | omega)
      subst this; simp
    · have := Nat.mul_le_mul_right w hn; (first | lia | omega)
  have lastp : ∀ n, n = M → pre (mkF [] (cutA (n * w) T)) ++ flat (cutB (n * w) T) = pcn w M T n := fun n hn => by
    have h0 : atk w M T n = cutA (n * w) T := if_pos (by (first | lia | omega))
    have h1 : atk w M T (n + 1) = T := if_neg (by (first | lia | omega))
    rw [pcn_eq w M T (cutB (n * w) T) n [] (by rw [h0, h1, cut_app]) (by rw [h1, List.append_nil]), h0, cut_app, hc]
    simp [post]
  intro f
  induction f with
  | zero =>
    intro n hn hf
    have : n = M := by (first | lia | omega)
    subst this
    show [_] = _
    rw [lastp n rfl, Nat.add_sub_cancel_left]; rfl
  | succ f ih =>
    intro n hn hf
    have hv := vis_cutB (n * w) T (hle n hn)
    unfold pcs
    by_cases hlast : n = M
    · subst hlast
      rw [if_pos (by rw [hv]; rw [Nat.add_mul] at hM2; (first | lia | omega)), lastp n rfl, Nat.add_sub_cancel_left]; rfl
    · have hn1 : n + 1 ≤ M := by (first | lia | omega)
      have hbig : (n + 1) * w < vis T := by
        rcases hM1 with h | h
        · (first | lia | omega)
        · have := Nat.mul_le_mul_right w hn1; (first | lia | omega)
      rw [if_neg (by rw [hv]; rw [Nat.add_mul] at hbig; (first | lia | omega))]
      have e1 : mkF (mkF [] (cutA (n * w) T)) (cutA w (cutB (n * w) T)) = mkF [] (cutA ((n + 1) * w) T) := by
        rw [← mkF_app, ← cutA_add, Nat.add_mul, Nat.one_mul]
      have e2 : cutB w (cutB (n * w) T) = cutB ((n + 1) * w) T := by rw [← cutB_add, Nat.add_mul, Nat.one_mul]
      rw [e1, e2, ih (n + 1) hn1 (by (first | lia | omega)), show M + 1 - n = (M + 1 - (n + 1)) + 1 from by (first | lia | omega), List.range'_succ, List.map_cons]
      congr 1
      have h0 : atk w M T n = cutA (n * w) T := if_pos hn
      have h1 : atk w M T (n + 1) = cutA ((n + 1) * w) T := if_pos hn1
      have h2 : atk w M T (n + 1) = atk w M T n ++ cutA w (cutB (n * w) T) := by rw [h0, h1, ← cutA_add, Nat.add_mul, Nat.one_mul]
      rw [pcn_eq w M T (cutA w (cutB (n * w) T)) n (cutB ((n + 1) * w) T) h2 (by rw [h1, cut_app]), ← h2, h0, h1]
noncomputable def seen (T : List Tk) : List Int := (List.range ((flat T).length + 1)).map fun p => sn ((flat T).take p)
/-- how many cuts -/
noncomputable def cutsN (w V : Nat) : Nat := (V - 1) / w
theorem cutsN_1 (w V : Nat) (hw : 1 ≤ w) : cutsN w V = 0 ∨ cutsN w V * w < V := by
  unfold cutsN
  rcases Nat.eq_zero_or_pos V with h | h
  · left; subst h; simp
  · right
    have := Nat.div_mul_le_self (V - 1) w; (first | lia | omega)
theorem cutsN_2 (w V : Nat) (hw : 1 ≤ w) : V ≤ (cutsN w V + 1) * w := by
  unfold cutsN
  have := Nat.lt_mul_div_succ (V - 1) (show 0 < w by (first | lia | omega))
  rw [Nat.mul_comm] at this; (first | lia | omega)
end Mine
end
section
namespace Mine
theorem fm_ok (x : Int) {k : Int} (h : 0 < k) : 0 ≤ x.fmod k ∧ x.fmod k < k := ⟨Int.fmod_nonneg_of_pos _ h, Int.fmod_lt_of_pos _ h⟩
theorem clip_nat (n k : Nat) : clipAt n (k : Int) = min k n := by
  unfold clipAt
  rw [if_neg (Int.not_lt.mpr (Int.natCast_nonneg k))]
  rcases Nat.le_total k n with h | h
  · rw [Int.min_eq_left (Int.ofNat_le.mpr h), Nat.min_eq_left h, Int.max_eq_right (Int.natCast_nonneg _), Int.toNat_natCast]
  · rw [Int.min_eq_right (Int.ofNat_le.mpr h), Nat.min_eq_right h, Int.max_eq_right (Int.natCast_nonneg _), Int.toNat_natCast]
theorem cut_lo {α : Type} (xs : List α) (k : Nat) : cut xs (some (k : Int)) none = xs.drop k := by
  unfold cut
  simp only [Option.elim, clip_nat]
  by_cases h : k ≤ xs.length
  · rw [Nat.min_eq_left h, List.take_of_length_le (by simp)]
  · rw [Nat.min_eq_right (by (first | lia | omega)), List.drop_of_length_le (by (first | lia | omega) : xs.length ≤ k)]; simp
theorem cut_hi {α : Type} (xs : List α) (k : Nat) : cut xs none (some (k : Int)) = xs.take k := by
  unfold cut
  simp only [Option.elim, clip_nat, List.drop_zero, Nat.sub_zero]
  by_cases h : k ≤ xs.length
  · rw [Nat.min_eq_left h]
  · rw [Nat.min_eq_right (by (first | lia | omega)), List.take_of_length_le (by (first | lia | omega) : xs.length ≤ k), List.take_length]
noncomputable def isMk (m : List Nat) : Prop := m = [] ∨ ∃ k, 2 ≤ k ∧ m = [k]
theorem mkF_isMk (m : List Nat) (A : List Tk) (h : PW m A) (hm : isMk m) : isMk (mkF m A) := by
  induction A generalizing m with
  | nil => exact hm
  | cons t A ih =>
    cases t with
    | op k => obtain ⟨_, h2, h3⟩ := h; exact ih _ h3 (.inr ⟨k, h2, rfl⟩)
    | cl => exact ih _ h.2 (.inl rfl)
    | sg c => exact ih _ h.2 hm
/-- a mark closed, another one opened -/
noncomputable def swT (now m : List Nat) : List Tk := (match now with | [] => [] | _ => [.cl]) ++ preT m
theorem swT_ok (A : List Tk) (m : List Nat) (h : PW [] A) (hm : isMk m) : PW [] (A ++ swT (mkF [] A) m) ∧ mkF [] (A ++ swT (mkF [] A) m) = m ∧ flat (A ++ swT (mkF [] A) m) = flat A ++ post (mkF [] A) ++ pre m ∧ vis (A ++ swT (mkF [] A) m) = vis A := by
  rw [PW_app, mkF_app, flat_app, vis_app]
  generalize hn : mkF [] A = now
  rcases hm with rfl | ⟨k, hk, rfl⟩
  · cases now with
    | nil => simp [swT, preT, PW, mkF, flat, post, pre, vis, h]
    | cons a r => simp [swT, preT, PW, mkF, flat, Tk.f, post, pre, vis, h]
  · cases now with
    | nil => simp [swT, preT, PW, mkF, flat, Tk.f, post, pre, vis, h, hk]
    | cons a r => simp [swT, preT, PW, mkF, flat, Tk.f, post, pre, vis, h, hk]
theorem pre_len (m : List Nat) (h : isMk m) : (pre m).length ≤ 2 := by
  rcases h with rfl | ⟨k, _, rfl⟩ <;> simp [pre]
theorem post_len (m : List Nat) : (post m).length ≤ 1 := by cases m <;> simp [post]
/-- the mark of a number -/
noncomputable def mark4 (x : Int) : List Nat := if x.fmod 4 = 0 then [] else if x.fmod 4 = 1 then [43] else if x.fmod 4 = 2 then [45] else [94]
theorem mark4_isMk (x : Int) : isMk (mark4 x) := by
  unfold mark4
  split
  · exact .inl rfl
  · split
    · exact .inr ⟨43, by decide, rfl⟩
    · split
      · exact .inr ⟨45, by decide, rfl⟩
      · exact .inr ⟨94, by decide, rfl⟩
theorem mark4_idx {H : LH} {Q : PV → LH → Prop} (x : Int) (h : Q (.str (mkS (mark4 x))) H) :
    idxW (.lst [.str (mkS []), .str (mkS [43]), .str (mkS [45]), .str (mkS [94])]) (.int (x.fmod 4)) H Q := by
  have h4 := fm_ok x (k := 4) (by decide)
  have hm : x.fmod 4 = 0 ∨ x.fmod 4 = 1 ∨ x.fmod 4 = 2 ∨ x.fmod 4 = 3 := by (first | lia | omega)
  unfold mark4 at h
  rcases hm with e | e | e | e
  · rw [e] at h ⊢; exact idx_L (k := 0) rfl (by simp) (by simpa using h)
  · rw [e] at h ⊢; exact idx_L (k := 1) rfl (by simp) (by simpa using h)
  · rw [e] at h ⊢; exact idx_L (k := 2) rfl (by simp) (by simpa using h)
  · rw [e] at h ⊢; exact idx_L (k := 3) rfl (by simp) (by simpa using h)
theorem ne_nilS (m : List Nat) : (mkS m != mkS []) = !m.isEmpty := by
  cases m with
  | nil => rfl
  | cons a r =>
    show (mkS (a :: r) != mkS []) = true
    rw [bne, mkS_beq]; rfl
end Mine
namespace Mine
theorem cmp_neI {H : LH} {i j : Int} {R : Bool → Prop} (h : R (i != j)) : cmpW .NotEq (.int i) (.int j) H R := h
theorem ifexp_post {now : List Nat} {R : PV → Prop} (h : R (.str (mkS (post now)))) : if (mkS now != mkS []) = true then R (.str (mkS [1])) else R (.str (mkS [])) := by
  rw [ne_nilS]
  cases now with
  | nil => exact h
  | cons a r => exact h
theorem ifexp_pre {m : List Nat} {H : LH} {R : PV → LH → Prop} (hm : m.length ≤ 1) (h : R (.str (mkS (pre m))) H) : if (mkS m != mkS []) = true then binW .Add (.str (mkS [0])) (.str (mkS m)) H (fun v H₂ => R v H₂) else R (.str (mkS [])) H := by
  rw [ne_nilS]
  cases m with
  | nil => exact h
  | cons a r =>
    rw [if_pos (by simp)]
    refine bin_addS (by rw [mkS_len, mkS_len, sizeLine_eq]; simp only [List.length_cons, List.length_nil] at hm ⊢; (first | lia | omega)) ?_
    rw [mkS_append]; exact h
theorem chr_W {H : LH} {Q : PV → LH → Prop} {i : Int} (c : Nat) (e : i = (c : Int)) (hc : c ≤ 200) (h : Q (.str (mkS [c])) H) : chrOp [.int i] H Q := by
  subst e
  exact ⟨_, rfl, by (first | lia | omega), by (first | lia | omega), by simpa [mkS] using h⟩
end Mine
namespace Mine
theorem ediv_bd {x c : Int} (hx : 0 ≤ x) (hc : 0 ≤ c) : 0 ≤ x / c ∧ x / c ≤ x := by
  refine ⟨Int.ediv_nonneg hx hc, ?_⟩
  exact Int.ediv_le_self c hx
theorem small_ok {a b c : Int} (ha : -1000000 ≤ a ∧ a ≤ 1000000) (hb : -1000000 ≤ b ∧ b ≤ 1000000) (hc : -1000 ≤ c ∧ c ≤ 1000) : Builtin.Range.small a b c = true := by
  have hn : 0 ≤ Builtin.Range.rangeSize a b c ∧ Builtin.Range.rangeSize a b c ≤ 3000000 := by
    unfold Builtin.Range.rangeSize
    split
    · split
      · have := ediv_bd (x := b - a - 1) (c := c) (by (first | lia | omega)) (by (first | lia | omega)); (first | lia | omega)
      · (first | lia | omega)
    · split
      · have := ediv_bd (x := a - b - 1) (c := -c) (by (first | lia | omega)) (by (first | lia | omega)); (first | lia | omega)
      · (first | lia | omega)
  unfold Builtin.Range.small
  generalize Builtin.Range.rangeSize a b c = n at hn
  simp only [Builtin.Range.rangeFitsLong, Bool.and_eq_true, Bool.or_eq_true, decide_eq_true_eq, beq_iff_eq]
  refine ⟨⟨⟨⟨by (first | lia | omega), by (first | lia | omega)⟩, by (first | lia | omega)⟩, by (first | lia | omega)⟩, .inr ?_⟩
  split <;> simp only [Bool.and_eq_true, decide_eq_true_eq] <;> (first | lia | omega)
theorem mulI_ok {i j : Int} (h : Builtin.Int.intBits i ≤ 64) : IntMulOk i j := IntMulOk.of_left h
end Mine
end
section
namespace Mine
theorem ofS0 : Str.ofString "\x00" = mkS [0] := by decide +kernel
theorem ofS1 : Str.ofString "\x01" = mkS [1] := by decide +kernel
theorem ofSe : Str.ofString "" = mkS [] := by decide +kernel
theorem ofSp : Str.ofString "+" = mkS [43] := by decide +kernel
theorem ofSm : Str.ofString "-" = mkS [45] := by decide +kernel
theorem ofSc : Str.ofString "^" = mkS [94] := by decide +kernel
theorem ofSt : Str.ofString "\t" = mkS [9] := by decide +kernel
theorem ofSg : Str.ofString ">" = mkS [62] := by decide +kernel
theorem MOp.mono {h₀ : Heap} {prog : Program} {w : World} {n : Nat} {env : Env} {loc : Loc} {Z : Zm} {H : LH} {s : Shared} {t : Sem Value} {W W' : (PV → LH → Prop) → Prop} (h : MOp h₀ prog w n env loc Z H s t W) (hw : ∀ Q, W' Q → W Q) : MOp h₀ prog w n env loc Z H s t W' :=
  fun A Q Q' E rm f q => h A Q Q' E rm (hw Q f) q
theorem LH.set_set (H : LH) (a : Addr) (l l' : LO) : (H.set a l).set a l' = H.set a l' := by
  funext b
  unfold LH.set
  by_cases h : b = a <;> simp [h]
theorem idx_S {l : List Nat} {H : LH} {Q : PV → LH → Prop} {k c : Nat} (hc : l[k]? = some c) (hl : l.length ≤ 100000) (h : Q (.str (mkS [c])) H) : idxW (.str (mkS l)) (.int (k : Int)) H Q := by
  have hk := (List.getElem?_eq_some_iff.mp hc).1
  refine ⟨by (first | lia | omega), c, ?_, h⟩
  rw [mkS_len, seqIndex_nat hk]
  show (mkS l).cps[k]? = some c
  simp [mkS, hc]
/-- the rows that are laid behind -/
noncomputable def rowsOf (line : PV) : List (List Nat) → List PV
  | [] => []
  | p :: ps => .tup [line, .str (mkS p)] :: ps.map fun p => .tup [.str (mkS [62]), .str (mkS p)]
theorem rowsOf_gt (ps : List (List Nat)) : rowsOf (.str (mkS [62])) ps = ps.map fun p => .tup [.str (mkS [62]), .str (mkS p)] := by cases ps <;> rfl
theorem rowsOf_len (line : PV) (ps : List (List Nat)) : (rowsOf line ps).length = ps.length := by cases ps <;> simp [rowsOf]
/-- what _split_line does -/
inductive SpW (C : Addr) (v : Nat) (ps : List PV) (H : LH) (Q : PV → LH → Prop) : Prop
  | mk (fs : List (String × PV)) (a : Addr) (xs : List PV) (line : PV) (t : Bool) (m : List Nat) (B : List Tk) (wr : Nat) (h0 : ps = [.obj C fs, .ref a, line, .str (mkS (pre m ++ flat B))]) (h1 : fs.lookup "_wrapcolumn" = some (.int (wr : Int))) (h2 : fs.lookup "_split_line" = none) (h3 : H a = some ⟨true, xs⟩) (h4 : (∀ H R, R t → truthW line H R)) (h5 : isMk m) (h6 : PW m B) (h7 : mkF m B = []) (h8 : vis B ≤ v) (h9 : (flat B).length ≤ 6000) (h10 : 1 ≤ wr) (h11 : wr ≤ 1000) (h12 : xs.length + vis B ≤ 10000) (h13 : Q .none (H.set a ⟨true, xs ++ rowsOf line (if t then pcs wr v m B else [pre m ++ flat B])⟩)) : SpW C v ps H Q
theorem SpW.mono {C : Addr} {v : Nat} {ps : List PV} {H : LH} {Q Q' : PV → LH → Prop} (hm : ∀ r H', Q r H' → Q' r H') (h : SpW C v ps H Q) : SpW C v ps H Q' := by
  obtain ⟨fs, a, xs, line, t, m, B, wr, h1, h2, h3, h4, h5, h6, h7, h8, h9, h10, h11, h12, h13, h14⟩ := h
  exact ⟨fs, a, xs, line, t, m, B, wr, h1, h2, h3, h4, h5, h6, h7, h8, h9, h10, h11, h12, h13, hm _ _ h14⟩
theorem flat_preT (m : List Nat) (B : List Tk) (h : isMk m) : flat (preT m ++ B) = pre m ++ flat B := by
  rcases h with rfl | ⟨k, _, rfl⟩ <;> rfl
theorem vis_preT (m : List Nat) (B : List Tk) : vis (preT m ++ B) = vis B := by cases m <;> rfl
theorem mkF_preT (m : List Nat) (B : List Tk) (h : isMk m) : mkF [] (preT m ++ B) = mkF m B := by
  rcases h with rfl | ⟨k, _, rfl⟩ <;> rfl
theorem PW_preT (m : List Nat) (B : List Tk) (h : isMk m) (hB : PW m B) : PW [] (preT m ++ B) := by
  rcases h with rfl | ⟨k, hk, rfl⟩
  · exact hB
  · exact ⟨rfl, hk, hB⟩
theorem cutA_preT (m : List Nat) (B : List Tk) (w : Nat) (hw : 1 ≤ w) : cutA w (preT m ++ B) = preT m ++ cutA w B := by
  obtain ⟨w, rfl⟩ : ∃ j, w = j + 1 := ⟨w - 1, by (first | lia | omega)⟩
  cases m with
  | nil => rfl
  | cons k r => show cutA (w + 1) (.op k :: B) = _; simp [cutA, preT]
theorem cutB_preT (m : List Nat) (B : List Tk) (w : Nat) (hw : 1 ≤ w) : cutB w (preT m ++ B) = cutB w B := by
  obtain ⟨w, rfl⟩ : ∃ j, w = j + 1 := ⟨w - 1, by (first | lia | omega)⟩
  cases m with
  | nil => rfl
  | cons k r => show cutB (w + 1) (.op k :: B) = _; simp [cutB]
/-- the loop's state -/
structure LpI (T : List Tk) (wr : Nat) (A B : List Tk) : Prop where
  all : T = A ++ B
  le : vis A ≤ wr
  cut : A ++ cutA (wr - vis A) B = cutA wr T
theorem LpI.init (T : List Tk) (wr : Nat) : LpI T wr [] T := ⟨rfl, Nat.zero_le _, rfl⟩
theorem LpI.done {T : List Tk} {wr : Nat} {A B : List Tk} (h : LpI T wr A B) (e : vis A = wr) : A = cutA wr T := by
  have := h.cut
  rw [e, Nat.sub_self] at this
  rw [← this]; simp [cutA]
theorem LpI.next {T : List Tk} {wr : Nat} {A B : List Tk} {t : Tk} (h : LpI T wr A (t :: B)) (hlt : vis A < wr) : LpI T wr (A ++ [t]) B := by
  have hc := h.cut
  obtain ⟨k, hk⟩ : ∃ k, wr - vis A = k + 1 := ⟨wr - vis A - 1, by (first | lia | omega)⟩
  rw [hk] at hc
  refine ⟨by rw [h.all, List.append_assoc]; rfl, ?_, ?_⟩
  · rw [vis_app]
    cases t <;> simp [vis] <;> (first | lia | omega)
  · rw [vis_app, ← hc, List.append_assoc]
    congr 1
    cases t with
    | sg c =>
      rw [show wr - (vis A + vis [Tk.sg c]) = k from by simp [vis]; (first | lia | omega)]; simp [cutA]
    | op m =>
      rw [show wr - (vis A + vis [Tk.op m]) = k + 1 from by simp [vis]; (first | lia | omega)]; simp [cutA]
    | cl =>
      rw [show wr - (vis A + vis [Tk.cl]) = k + 1 from by simp [vis]; (first | lia | omega)]; simp [cutA]
theorem get_app (X Y : List Nat) (i : Nat) : (X ++ Y)[X.length + i]? = Y[i]? := by
  rw [List.getElem?_append_right (by (first | lia | omega))]; congr 1; (first | lia | omega)
end Mine
namespace Mine
end Mine
end
section
namespace Mine
theorem sh_int (i : Int) : SeqAt.shaped (.int i) = true := shaped_of (n := 0) (by decide) rfl (Nat.le_refl _)
theorem sh_str {l : List Nat} (h : ∀ c ∈ l, c < 128) : SeqAt.shaped (.str (mkS l)) = true := shaped_of (n := 0) (by decide) (strOk_mk h) (Nat.le_refl _)
theorem cmp_IS {H : LH} {R : Bool → Prop} {i : Int} {l : List Nat} (hl : ∀ c ∈ l, c < 128) (h : R false) : cmpW .Eq (.int i) (.str (mkS l)) H R :=
  ⟨_, _, .int i, .str _, sh_int i, sh_str hl, h⟩
theorem cmp_SI {H : LH} {R : Bool → Prop} {i : Int} {l : List Nat} (hl : ∀ c ∈ l, c < 128) (h : R false) : cmpW .Eq (.str (mkS l)) (.int i) H R :=
  ⟨_, _, .str _, .int i, sh_str hl, sh_int i, h⟩
/-- the lines of the law -/
inductive OkLine : PV → Bool → Prop
  | int (i : Int) : OkLine (.int i) (i != 0)
  | no : OkLine (.str (mkS [])) false
  | more : OkLine (.str (mkS [62])) true
noncomputable def nums09 (ws : List Int) : List Int := ws ++ [0, 0, 9, 1, 1, 0, 49].drop ws.length
end Mine
end
section
namespace Mine
/-- signs with their marks -/
abbrev Cells := List (Nat × List Nat)
noncomputable def okCs (r : Cells) : Prop := ∀ x ∈ r, 2 ≤ x.1 ∧ isMk x.2
noncomputable def sw1 (last m : List Nat) : List Tk := if m = last then [] else swT last m
noncomputable def tok (last : List Nat) : Cells → List Tk
  | [] => (match last with | [] => [] | _ => [.cl])
  | (c, m) :: r => sw1 last m ++ .sg c :: tok m r
noncomputable def cellsOf (m : List Nat) : List Tk → Cells
  | [] => []
  | .op k :: T => cellsOf [k] T
  | .cl :: T => cellsOf [] T
  | .sg c :: T => (c, m) :: cellsOf m T
theorem cellsOf_app (m : List Nat) (A B : List Tk) : cellsOf m (A ++ B) = cellsOf m A ++ cellsOf (mkF m A) B := by
  induction A generalizing m with
  | nil => rfl
  | cons t A ih => cases t <;> simp [cellsOf, mkF, ih]
theorem cellsOf_len (m : List Nat) (A : List Tk) : (cellsOf m A).length = vis A := by
  induction A generalizing m with
  | nil => rfl
  | cons t A ih => cases t <;> simp [cellsOf, vis, ih]
theorem sw1_ok (last m : List Nat) (hl : isMk last) (hm : isMk m) : PW last (sw1 last m) ∧ mkF last (sw1 last m) = m ∧ cellsOf last (sw1 last m) = [] ∧ vis (sw1 last m) = 0 ∧ (flat (sw1 last m)).length ≤ 3 := by
  unfold sw1
  by_cases e : m = last
  · rw [if_pos e]; subst e; exact ⟨trivial, rfl, rfl, rfl, by simp [flat]⟩
  · rw [if_neg e]
    rcases hl with rfl | ⟨a, ha, rfl⟩
    · rcases hm with rfl | ⟨k, hk, rfl⟩
      · exact absurd rfl e
      · simp [swT, preT, PW, mkF, cellsOf, vis, flat, Tk.f, hk]
    · rcases hm with rfl | ⟨k, hk, rfl⟩
      · simp [swT, preT, PW, mkF, cellsOf, vis, flat, Tk.f]
      · simp [swT, preT, PW, mkF, cellsOf, vis, flat, Tk.f, hk]
theorem tok_ok : ∀ (r : Cells) (last : List Nat), okCs r → isMk last → PW last (tok last r) ∧ mkF last (tok last r) = [] ∧ cellsOf last (tok last r) = r ∧ (flat (tok last r)).length ≤ 4 * r.length + 1
  | [], last, _, hl => by
    rcases hl with rfl | ⟨k, hk, rfl⟩
    · exact ⟨trivial, rfl, rfl, by simp [tok, flat]⟩
    · simp [tok, PW, mkF, cellsOf, flat, Tk.f]
  | (c, m) :: r, last, h, hl => by
    have hx := h (c, m) List.mem_cons_self
    obtain ⟨a1, a2, a3, _, a5⟩ := sw1_ok last m hl hx.2
    obtain ⟨b1, b2, b3, b4⟩ := tok_ok r m (fun x hx => h x (List.mem_cons_of_mem _ hx)) hx.2
    unfold tok
    refine ⟨?_, ?_, ?_, ?_⟩
    · rw [PW_app, a2]; exact ⟨a1, hx.1, b1⟩
    · rw [mkF_app, a2]; exact b2
    · rw [cellsOf_app, a2, a3]; show (c, m) :: cellsOf m (tok m r) = _; rw [b3]
    · rw [flat_app, List.length_append, len_sg, List.length_cons]; (first | lia | omega)
theorem cellsOf_cutA (m : List Nat) (k : Nat) (T : List Tk) : cellsOf m (cutA k T) = (cellsOf m T).take k := by
  induction T generalizing m k with
  | nil => rw [cutA_nil]; simp [cellsOf]
  | cons t T ih =>
    cases k with
    | zero => simp [cutA, cellsOf]
    | succ k => cases t <;> simp [cutA, cellsOf, ih]
theorem cellsOf_cutB (m : List Nat) (k : Nat) (T : List Tk) : cellsOf (mkF m (cutA k T)) (cutB k T) = (cellsOf m T).drop k := by
  induction T generalizing m k with
  | nil => rw [cutA_nil, cutB_nil]; simp [cellsOf, mkF]
  | cons t T ih =>
    cases k with
    | zero => simp [cutA, cutB, mkF]
    | succ k => cases t <;> simp [cutA, cutB, cellsOf, mkF, ih]
/-- a part behind a 0: the mark, what stands within it, what stands behind it -/
structure Pt3 where
  k : Nat
  I : List Nat
  O : List Nat
noncomputable def Pt3.l (p : Pt3) : List Nat := p.k :: (p.I ++ 1 :: p.O)
noncomputable def Pt3.cs (p : Pt3) : Cells := p.I.map (fun c => (c, [p.k])) ++ p.O.map fun c => (c, [])
theorem read_ok : ∀ (A : List Tk) (m : List Nat), isMk m → PW m A → mkF m A = [] →
    (m = [] → ∃ (p0 : List Nat) (ps : List Pt3), spl 0 (flat A) = p0 :: ps.map Pt3.l ∧ (∀ p ∈ ps, 1 ∉ p.I) ∧ cellsOf m A = p0.map (fun c => (c, [])) ++ (ps.map Pt3.cs).flatten) ∧
    (∀ k, m = [k] → ∃ (I O : List Nat) (ps : List Pt3), spl 0 (flat A) = (I ++ 1 :: O) :: ps.map Pt3.l ∧ 1 ∉ I ∧ (∀ p ∈ ps, 1 ∉ p.I) ∧ cellsOf m A = I.map (fun c => (c, [k])) ++ O.map (fun c => (c, [])) ++ (ps.map Pt3.cs).flatten)
  | [], m, hm, _, hc => by
    refine ⟨fun e => ?_, fun k e => ?_⟩
    · exact ⟨[], [], rfl, (fun _ h => by cases h), by subst e; rfl⟩
    · subst e; cases hc
  | .op j :: A, m, hm, hP, hc => by
    obtain ⟨rfl, hj, hP⟩ := hP
    refine ⟨fun _ => ?_, fun k e => by cases e⟩
    obtain ⟨I, O, ps, e1, e2, e3, e4⟩ := (read_ok A [j] (.inr ⟨j, hj, rfl⟩) hP hc).2 j rfl
    refine ⟨[], ⟨j, I, O⟩ :: ps, ?_, ?_, ?_⟩
    · show spl 0 (0 :: j :: flat A) = _
      have e5 : spl 0 (j :: flat A) = (j :: (I ++ 1 :: O)) :: ps.map Pt3.l := by
        conv => lhs; unfold spl
        rw [if_neg (by (first | lia | omega)), e1]
      conv => lhs; unfold spl
      rw [if_pos rfl, e5]; rfl
    · intro p hp
      rcases List.mem_cons.mp hp with rfl | hp
      · exact e2
      · exact e3 p hp
    · show cellsOf [j] A = _
      rw [e4]; simp [Pt3.cs]
  | .cl :: A, m, hm, hP, hc => by
    obtain ⟨hne, hP⟩ := hP
    refine ⟨fun e => absurd e hne, fun k e => ?_⟩
    obtain ⟨p0, ps, e1, e2, e3⟩ := (read_ok A [] (.inl rfl) hP hc).1 rfl
    refine ⟨[], p0, ps, ?_, (fun h => by cases h), e2, ?_⟩
    · show spl 0 (1 :: flat A) = _
      conv => lhs; unfold spl
      rw [if_neg (by decide), e1]; rfl
    · show cellsOf [] A = _
      rw [e3]; simp
  | .sg c :: A, m, hm, hP, hc => by
    obtain ⟨hc2, hP⟩ := hP
    have ih := read_ok A m hm hP hc
    refine ⟨fun e => ?_, fun k e => ?_⟩
    · obtain ⟨p0, ps, e1, e2, e3⟩ := ih.1 e
      refine ⟨c :: p0, ps, ?_, e2, ?_⟩
      · show spl 0 (c :: flat A) = _
        conv => lhs; unfold spl
        rw [if_neg (by (first | lia | omega)), e1]
      · show (c, m) :: cellsOf m A = _
        rw [e3, e]; rfl
    · obtain ⟨I, O, ps, e1, e2, e3, e4⟩ := ih.2 k e
      refine ⟨c :: I, O, ps, ?_, ?_, e3, ?_⟩
      · show spl 0 (c :: flat A) = _
        conv => lhs; unfold spl
        rw [if_neg (by (first | lia | omega)), e1]; rfl
      · simp only [List.mem_cons, not_or]; exact ⟨by (first | lia | omega), e2⟩
      · show (c, m) :: cellsOf m A = _
        rw [e4, e]; rfl
/-- the piece as tokens -/
noncomputable def postT (m : List Nat) : List Tk := match m with | [] => [] | _ => [.cl]
theorem piece_ok (m : List Nat) (A : List Tk) (hm : isMk m) (hP : PW m A) : PW [] (preT m ++ A ++ postT (mkF m A)) ∧ mkF [] (preT m ++ A ++ postT (mkF m A)) = [] ∧ flat (preT m ++ A ++ postT (mkF m A)) = pre m ++ flat A ++ post (mkF m A) ∧ cellsOf [] (preT m ++ A ++ postT (mkF m A)) = cellsOf m A := by
  have h1 := mkF_preT m A hm
  have h2 := PW_preT m A hm hP
  have h3 := flat_preT m A hm
  have h4 : cellsOf [] (preT m ++ A) = cellsOf m A := by rcases hm with rfl | ⟨k, _, rfl⟩ <;> rfl
  generalize preT m ++ A = D at h1 h2 h3 h4
  generalize mkF m A = M at h1
  refine ⟨(PW_app [] D _).mpr ⟨h2, ?_⟩, ?_, ?_, ?_⟩
  · rw [h1]; cases M <;> simp [postT, PW]
  · rw [mkF_app, h1]; cases M <;> simp [postT, mkF]
  · rw [flat_app, h3]; cases M <;> simp [postT, post, flat, Tk.f]
  · rw [cellsOf_app, h1, h4]; cases M <;> simp [postT, cellsOf]
end Mine
end
section
namespace Mine
theorem spl_len (c : Nat) : ∀ l : List Nat, (spl c l).length ≤ l.length + 1 ∧ ∀ p ∈ spl c l, p.length ≤ l.length
  | [] => ⟨by simp [spl], fun p hp => by simp [spl] at hp; simp [hp]⟩
  | x :: r => by
    obtain ⟨h1, h2⟩ := spl_len c r
    unfold spl
    by_cases e : x = c
    · rw [if_pos e]
      refine ⟨by simp; (first | lia | omega), fun p hp => ?_⟩
      rcases List.mem_cons.mp hp with rfl | hp
      · simp
      · have := h2 p hp; simp; (first | lia | omega)
    · rw [if_neg e]
      cases q : spl c r with
      | nil => exact ⟨by simp, fun p hp => by simp at hp; simp [hp]⟩
      | cons p0 ps =>
        rw [q] at h1 h2
        refine ⟨by simp at h1 ⊢; (first | lia | omega), fun p hp => ?_⟩
        rcases List.mem_cons.mp hp with rfl | hp
        · have := h2 p0 List.mem_cons_self; simp; (first | lia | omega)
        · have := h2 p (List.mem_cons_of_mem _ hp); simp; (first | lia | omega)
end Mine
end
section
namespace Mine
theorem pcn_mid (w M : Nat) (T : List Tk) (j : Nat) (h : j < M) : pcn w M T j = pre (mkF [] (cutA (j * w) T)) ++ flat (cutA w (cutB (j * w) T)) ++ post (mkF [] (cutA ((j + 1) * w) T)) := by
  have h0 : atk w M T j = cutA (j * w) T := if_pos (by (first | lia | omega))
  have h1 : atk w M T (j + 1) = cutA ((j + 1) * w) T := if_pos (by (first | lia | omega))
  have h2 : atk w M T (j + 1) = atk w M T j ++ cutA w (cutB (j * w) T) := by rw [h0, h1, ← cutA_add, Nat.add_mul, Nat.one_mul]
  rw [pcn_eq w M T (cutA w (cutB (j * w) T)) j (cutB ((j + 1) * w) T) h2 (by rw [h1, cut_app]), ← h2, h0, h1]
theorem pcn_last (w M : Nat) (T : List Tk) (hc : mkF [] T = []) : pcn w M T M = pre (mkF [] (cutA (M * w) T)) ++ flat (cutB (M * w) T) := by
  have h0 : atk w M T M = cutA (M * w) T := if_pos (Nat.le_refl _)
  have h1 : atk w M T (M + 1) = T := if_neg (by (first | lia | omega))
  rw [pcn_eq w M T (cutB (M * w) T) M [] (by rw [h0, h1, cut_app]) (by rw [h1, List.append_nil]), h0, cut_app, hc]
  simp [post]
/-- the mark at a cut is the mark of the sign ahead of it -/
theorem mark_at (T : List Tk) : ∀ (m : List Nat) (k : Nat), k < vis T → ∃ c, (cellsOf m T)[k]? = some (c, mkF m (cutA (k + 1) T)) := by
  induction T with
  | nil => intro m k h; simp [vis] at h
  | cons t T ih =>
    intro m k h
    cases t with
    | op j => simp only [vis] at h; obtain ⟨c, e⟩ := ih [j] k h; exact ⟨c, by simpa [cellsOf, cutA, mkF] using e⟩
    | cl => simp only [vis] at h; obtain ⟨c, e⟩ := ih [] k h; exact ⟨c, by simpa [cellsOf, cutA, mkF] using e⟩
    | sg d =>
      simp only [vis] at h
      cases k with
      | zero => exact ⟨d, by simp [cellsOf, cutA, mkF]⟩
      | succ k =>
        obtain ⟨c, e⟩ := ih m k (by (first | lia | omega))
        exact ⟨c, by simpa [cellsOf, cutA, mkF] using e⟩
/-- a piece as tokens, and its cells -/
theorem pcn_tok (w M : Nat) (T : List Tk) (hP : PW [] T) (hc : mkF [] T = []) (hM2 : vis T ≤ (M + 1) * w) (j : Nat) (hj : j ≤ M) :
    ∃ A, pcn w M T j = flat A ∧ PW [] A ∧ mkF [] A = [] ∧ cellsOf [] A = ((cellsOf [] T).drop (j * w)).take w := by
  have hT : PW [] (cutA (j * w) T) ∧ PW (mkF [] (cutA (j * w) T)) (cutB (j * w) T) := by rw [← PW_app, cut_app]; exact hP
  have hm := mkF_isMk [] _ hT.1 (.inl rfl)
  have hcl : mkF (mkF [] (cutA (j * w) T)) (cutB (j * w) T) = [] := by rw [← mkF_app, cut_app]; exact hc
  have hcs := cellsOf_cutB [] (j * w) T
  by_cases e : j < M
  · have hB : PW (mkF [] (cutA (j * w) T)) (cutA w (cutB (j * w) T)) := by
      have := hT.2
      rw [← cut_app w (cutB (j * w) T), PW_app] at this
      exact this.1
    obtain ⟨a1, a2, a3, a4⟩ := piece_ok _ _ hm hB
    refine ⟨_, ?_, a1, a2, ?_⟩
    · rw [a3, pcn_mid w M T j e, ← mkF_app, ← cutA_add, Nat.add_mul, Nat.one_mul]
    · rw [a4, cellsOf_cutA, hcs]
  · have e' : j = M := by (first | lia | omega)
    subst e'
    obtain ⟨a1, a2, a3, a4⟩ := piece_ok _ _ hm hT.2
    refine ⟨_, ?_, a1, a2, ?_⟩
    · rw [a3, hcl, pcn_last w j T hc]; simp [post]
    · rw [a4, hcs, List.take_of_length_le]
      rw [List.length_drop, cellsOf_len]
      rw [Nat.add_mul, Nat.one_mul] at hM2; (first | lia | omega)
/-- joined again from the back -/
theorem rejoin (w M : Nat) (T : List Tk) (j : Nat) (h : j < M) : pre (mkF [] (cutA (j * w) T)) ++ flat (cutA w (cutB (j * w) T)) ++ flat (cutB ((j + 1) * w) T) = pre (mkF [] (cutA (j * w) T)) ++ flat (cutB (j * w) T) := by
  rw [List.append_assoc, ← flat_app]
  congr 2
  rw [Nat.add_mul, Nat.one_mul, cutB_add, cut_app]
end Mine
end
section
namespace Mine
/-- the columns that a terminal shows, sign by sign -/
noncomputable def scrStep (n : Nat) (s : List Nat) (c : Nat) : List Nat := if c = 9 then s ++ List.replicate (n - s.length % n) 9 else s ++ [c]
noncomputable def scr (n : Nat) (line : List Nat) : List Nat := line.foldl (scrStep n) []
theorem fill_scr (n : Nat) (hn : 1 ≤ n) : ∀ (line : List Nat) (s : List Nat), (∀ c ∈ line, c ≠ 10 ∧ c ≠ 13) → line.foldl (fillStep (n : Int)) (s, s.length) = (line.foldl (scrStep n) s, (line.foldl (scrStep n) s).length)
  | [], _, _ => rfl
  | c :: line, s, h => by
    have hc := h c List.mem_cons_self
    have ih := fun s' => fill_scr n hn line s' fun d hd => h d (List.mem_cons_of_mem _ hd)
    rw [List.foldl_cons, List.foldl_cons]
    have e : fillStep (n : Int) (s, s.length) c = (scrStep n s c, (scrStep n s c).length) := by
      unfold fillStep scrStep
      by_cases h9 : c = 9
      · rw [if_pos h9, if_pos h9, if_pos (by (first | lia | omega))]
        simp
      · rw [if_neg h9, if_neg h9, if_neg (by (first | lia | omega))]
        simp
    rw [e, ih]
theorem scr_no (n : Nat) : ∀ (line s : List Nat), (∀ c ∈ line, c ≠ 10) → (∀ c ∈ s, c ≠ 10) → ∀ c ∈ line.foldl (scrStep n) s, c ≠ 10
  | [], _, _, hs => hs
  | d :: line, s, h, hs => by
    rw [List.foldl_cons]
    refine scr_no n line _ (fun c hc => h c (List.mem_cons_of_mem _ hc)) fun c hc => ?_
    unfold scrStep at hc
    split at hc
    · rcases List.mem_append.mp hc with hc | hc
      · exact hs c hc
      · rw [(List.mem_replicate.mp hc).2]; decide
    · rcases List.mem_append.mp hc with hc | hc
      · exact hs c hc
      · rw [List.mem_singleton.mp hc]; exact h d List.mem_cons_self
theorem chomp_free (l : List Nat) (h : ∀ c ∈ l, c ≠ 10) : chomp l = l := by
  rcases List.eq_nil_or_concat l with rfl | ⟨l', c, rfl⟩
  · rfl
  · rw [List.concat_eq_append, chomp_snoc l' (h c (by simp))]
theorem chomp_reps (l : List Nat) : ∀ k, chomp (l ++ List.replicate k 10) = chomp l
  | 0 => by simp
  | k + 1 => by
    rw [List.replicate_succ', ← List.append_assoc, chomp_snoc_nl, chomp_reps l k]
theorem fill_nl (size : Int) : ∀ (k : Nat) (s : List Nat) (n : Nat), ((List.replicate k 10).foldl (fillStep size) (s, n)).1 = s ++ List.replicate k 10
  | 0, s, n => by simp
  | k + 1, s, n => by
    rw [List.replicate_succ, List.foldl_cons]
    have e : fillStep size (s, n) 10 = (s ++ [10], 0) := by simp [fillStep]
    rw [e, fill_nl size k]; simp
/-- what _tab_newline_replace makes of a line is what the screen shows -/
theorem filled_scr (n : Nat) (hn : 1 ≤ n) (line : List Nat) (k : Nat) (h : ∀ c ∈ line, c ≠ 10 ∧ c ≠ 13) : filled (n : Int) (line ++ List.replicate k 10) = scr n line := by
  unfold filled fillRow
  have e := fill_scr n hn line [] h
  rw [show ([] : List Nat).length = 0 from rfl] at e
  rw [List.foldl_append, e, fill_nl, chomp_reps]
  exact chomp_free _ (scr_no n line [] (fun c hc => (h c hc).1) (fun _ hc => by cases hc))
end Mine
end
section
namespace Mine
noncomputable def chP (c : Nat) : PV := .str (mkS [c])
noncomputable def maP (m : List Nat) : PV := .str (mkS m)
/-- the sign of a number -/
noncomputable def sgn (x : Int) : Nat := if x.fmod 4 = 0 then 9 else if x.fmod 4 = 1 then 32 else (33 + (x.fdiv 4).fmod 94).toNat
noncomputable def okC (c : Nat) : Prop := c = 9 ∨ (32 ≤ c ∧ c < 128)
theorem sgn_ok (x : Int) : okC (sgn x) := by
  have := fm_ok (x.fdiv 4) (k := 94) (by decide)
  unfold sgn
  split
  · exact .inl rfl
  · right; split <;> (first | lia | omega)
theorem sgn_idx {H : LH} {Q : PV → LH → Prop} (x : Int) (c : Nat) (hc : (33 + (x.fdiv 4).fmod 94 : Int) = c) (h : Q (.str (mkS [sgn x])) H) :
    idxW (.lst [.str (mkS [9]), .str (mkS [32]), .str (mkS [c]), .str (mkS [c])]) (.int (x.fmod 4)) H Q := by
  have h4 := fm_ok x (k := 4) (by decide)
  have hm : x.fmod 4 = 0 ∨ x.fmod 4 = 1 ∨ x.fmod 4 = 2 ∨ x.fmod 4 = 3 := by (first | lia | omega)
  unfold sgn at h
  rw [hc] at h
  rcases hm with e | e | e | e
  · rw [e] at h ⊢; exact idx_L (k := 0) rfl (by simp) (by simpa using h)
  · rw [e] at h ⊢; exact idx_L (k := 1) rfl (by simp) (by simpa using h)
  · rw [e] at h ⊢; exact idx_L (k := 2) rfl (by simp) (by simpa using h)
  · rw [e] at h ⊢; exact idx_L (k := 3) rfl (by simp) (by simpa using h)
noncomputable def cntM (x : Int) : Nat := ((x.fdiv 28).fmod 9 + 1).toNat
theorem cntM_eq (x : Int) : ((x.fdiv 28).fmod 9 + 1) = (cntM x : Int) ∧ 1 ≤ cntM x ∧ cntM x ≤ 9 := by
  have h := fm_ok (x.fdiv 28) (k := 9) (by decide)
  have e : (cntM x : Int) = (x.fdiv 28).fmod 9 + 1 := Int.toNat_of_nonneg (Int.add_nonneg h.1 (by decide))
  generalize (x.fdiv 28).fmod 9 = y at h e
  exact ⟨e.symm, by (first | lia | omega), by (first | lia | omega)⟩
noncomputable def mks (ns : List Int) : List (List Nat) := (ns.map fun x => List.replicate (cntM x) (mark4 (x.fdiv 7))).flatten
noncomputable def okM (m : List Nat) : Prop := isMk m ∧ ∀ c ∈ m, c < 128
theorem mark4_ok (x : Int) : okM (mark4 x) := by
  refine ⟨mark4_isMk x, fun c hc => ?_⟩
  unfold mark4 at hc
  split at hc
  · cases hc
  · split at hc
    · rw [List.mem_singleton.mp hc]; decide
    · split at hc
      · rw [List.mem_singleton.mp hc]; decide
      · rw [List.mem_singleton.mp hc]; decide
theorem mks_ok (ns : List Int) : ∀ m ∈ mks ns, okM m := by
  intro m hm
  obtain ⟨l, hl, hm⟩ := List.mem_flatten.mp hm
  obtain ⟨x, _, rfl⟩ := List.mem_map.mp hl
  rw [(List.mem_replicate.mp hm).2]
  exact mark4_ok _
theorem mks_snoc (ns : List Int) (x : Int) : mks (ns ++ [x]) = mks ns ++ List.replicate (cntM x) (mark4 (x.fdiv 7)) := by simp [mks]
theorem mks_len (ns : List Int) : (mks ns).length ≤ 9 * ns.length := by
  induction ns with
  | nil => simp [mks]
  | cons x ns ih =>
    have := (cntM_eq x).2.2
    have e : mks (x :: ns) = List.replicate (cntM x) (mark4 (x.fdiv 7)) ++ mks ns := by simp [mks]
    rw [e]; simp; (first | lia | omega)
theorem scr_snoc (n : Nat) (l : List Nat) (c : Nat) : scr n (l ++ [c]) = scrStep n (scr n l) c := by simp [scr]
theorem scrStep_len (n : Nat) (s : List Nat) (c : Nat) (hn : 1 ≤ n) : s.length + 1 ≤ (scrStep n s c).length ∧ (scrStep n s c).length ≤ s.length + n := by
  unfold scrStep
  split
  · have := Nat.mod_lt s.length (show 0 < n by (first | lia | omega))
    simp; (first | lia | omega)
  · simp; (first | lia | omega)
theorem scr_len (n : Nat) (hn : 1 ≤ n) : ∀ (l s : List Nat), s.length + l.length ≤ (l.foldl (scrStep n) s).length ∧ (l.foldl (scrStep n) s).length ≤ s.length + n * l.length
  | [], s => by simp
  | c :: l, s => by
    have h := scr_len n hn l (scrStep n s c)
    have h' := scrStep_len n s c hn
    rw [List.foldl_cons, List.length_cons, Nat.mul_succ]
    (first | lia | omega)
theorem scr_okC (n : Nat) : ∀ (l s : List Nat), (∀ c ∈ l, okC c) → (∀ c ∈ s, okC c) → ∀ c ∈ l.foldl (scrStep n) s, okC c
  | [], _, _, hs => hs
  | d :: line, s, h, hs => by
    rw [List.foldl_cons]
    refine scr_okC n line _ (fun c hc => h c (List.mem_cons_of_mem _ hc)) fun c hc => ?_
    unfold scrStep at hc
    split at hc
    · rcases List.mem_append.mp hc with hc | hc
      · exact hs c hc
      · rw [(List.mem_replicate.mp hc).2]; exact .inl rfl
    · rcases List.mem_append.mp hc with hc | hc
      · exact hs c hc
      · rw [List.mem_singleton.mp hc]; exact h d List.mem_cons_self
theorem cut_mid {α : Type} (xs : List α) (i j : Nat) (hi : i ≤ xs.length) : cut xs (some (i : Int)) (some (j : Int)) = (xs.drop i).take (j - i) := by
  unfold cut
  simp only [Option.elim, clip_nat]
  rw [Nat.min_eq_left hi]
  by_cases h : j ≤ xs.length
  · rw [Nat.min_eq_left h]
  · rw [Nat.min_eq_right (by (first | lia | omega)), List.take_of_length_le (by simp), List.take_of_length_le (by simp; (first | lia | omega))]
theorem clip_neg1 (n : Nat) : clipAt n (-1) = n - 1 := by
  unfold clipAt
  rw [if_pos (by decide), Int.min_eq_left (by (first | lia | omega)), ← Int.toNat_of_nonneg (Int.le_max_left 0 (-1 + (n : Int)))]
  cases n with
  | zero => rfl
  | succ m => rw [show (-1 : Int) + ((m + 1 : Nat) : Int) = (m : Int) by (first | lia | omega), Int.max_eq_right (Int.natCast_nonneg m)]; rfl
theorem cut_dropLast {α : Type} (xs : List α) : cut xs none (some (-1)) = xs.dropLast := by
  unfold cut
  simp only [Option.elim, List.drop_zero, List.dropLast_eq_take, clip_neg1, Nat.sub_zero]
theorem ne_same {H : LH} {p : PV} {R : Bool → Prop} (hp : ∃ xs, p = .lst xs) (hg : Gd H 60 p) (h : R false) : cmpW .NotEq p p H R := by
  obtain ⟨xs, rfl⟩ := hp
  obtain ⟨d, x, y, z⟩ := hg.data
  refine ⟨d, d, x, x, shaped_of (by decide) y z, shaped_of (by decide) y z, ?_⟩
  rw [SeqAt.eqv_refl _ y]; exact h
/-- the cells -/
theorem cells_gd {H : LH} (r : Cells) (n : Nat) (h : ∀ x ∈ r, x.1 < 128 ∧ ∀ c ∈ x.2, c < 128) : Gds H (n + 1) (r.map fun x : Nat × List Nat => PV.tup [.str (mkS [x.1]), .str (mkS x.2)]) := by
  refine Gds.of fun p hp => ?_
  obtain ⟨x, hx, rfl⟩ := List.mem_map.mp hp
  have := h x hx
  exact .tup (.cons (.str _ (strOk_mk fun c hc => by rw [List.mem_singleton.mp hc]; exact this.1)) (.cons (.str _ (strOk_mk this.2)) (.nil _)))
theorem zipP (S : List Nat) (M : List (List Nat)) : List.zipWith (fun p q => PV.tup [p, q]) (S.map chP) (M.map maP) = (S.zip M).map fun x : Nat × List Nat => PV.tup [.str (mkS [x.1]), .str (mkS x.2)] := by
  rw [List.zipWith_map, List.zip, List.map_zipWith]; rfl
theorem signs_chP (S : List Nat) : strSigns (mkS S) = S.map chP := by simp [strSigns, mkS, chP]
theorem zip_mem (S : List Nat) (M : List (List Nat)) (hS : ∀ c ∈ S, okC c) (hM : ∀ m ∈ M, okM m) : okCs (S.zip M) ∧ ∀ x ∈ S.zip M, x.1 < 128 ∧ ∀ c ∈ x.2, c < 128 := by
  have key : ∀ x ∈ S.zip M, okC x.1 ∧ okM x.2 := fun x hx => ⟨hS _ (List.of_mem_zip (a := x.1) (b := x.2) hx).1, hM _ (List.of_mem_zip (a := x.1) (b := x.2) hx).2⟩
  refine ⟨fun x hx => ?_, fun x hx => ?_⟩
  · obtain ⟨a, b⟩ := key x hx
    exact ⟨by rcases a with h | h <;> (first | lia | omega), b.1⟩
  · obtain ⟨a, b⟩ := key x hx
    exact ⟨by rcases a with h | h <;> (first | lia | omega), b.2⟩
/-- the rows, in both ways -/
theorem rows11 (T : List Tk) (w : Nat) (hw : 1 ≤ w) (hc : mkF [] T = []) (t : Bool) (V : Nat) (hV : vis T = V) (h1 : 1 ≤ V) (h2 : V ≤ 380) :
    ∃ M wd, M = (if t then (V - 1) / w else 0) ∧ wd = (if M + 1 = 1 then V else w) ∧ 1 ≤ wd ∧ (M = 0 ∨ M * wd < V) ∧ V ≤ (M + 1) * wd ∧ (if t then pcs w 380 [] T else [pre [] ++ flat T]) = (List.range (M + 1)).map (pcn wd M T) := by
  have one : ∀ wd, pcn wd 0 T 0 = flat T := fun wd => by
    rw [pcn_last wd 0 T hc]
    have e1 : cutA (0 * wd) T = [] := by rw [Nat.zero_mul]; cases T <;> rfl
    have e2 : cutB (0 * wd) T = T := by rw [Nat.zero_mul]; cases T <;> rfl
    rw [e1, e2]; rfl
  cases t with
  | false => exact ⟨0, V, rfl, rfl, h1, .inl rfl, by (first | lia | omega), by simp [one, pre]⟩
  | true =>
    have hm1 := cutsN_1 w V hw
    have hm2 := cutsN_2 w V hw
    have hle : cutsN w V ≤ 380 := by unfold cutsN; exact Nat.le_trans (Nat.div_le_self _ _) (by (first | lia | omega))
    have e := pcs_law w (cutsN w V) T hw (by rw [hV]; exact hm1) (by rw [hV]; exact hm2) hc 380 0 (Nat.zero_le _) (by (first | lia | omega))
    have e1 : cutA (0 * w) T = [] := by rw [Nat.zero_mul]; cases T <;> rfl
    have e2 : cutB (0 * w) T = T := by rw [Nat.zero_mul]; cases T <;> rfl
    rw [e1, e2, Nat.sub_zero, ← List.range_eq_range'] at e
    change pcs w 380 [] T = _ at e
    by_cases hz : cutsN w V = 0
    · refine ⟨0, V, hz.symm, rfl, h1, .inl rfl, by (first | lia | omega), ?_⟩
      rw [if_pos rfl, e, hz]; simp [one]
    · refine ⟨cutsN w V, w, rfl, (if_neg (by (first | lia | omega))).symm, hw, hm1, hm2, ?_⟩
      rw [if_pos rfl, e]
theorem fmod_nat (a b : Nat) : ((a : Nat) : Int).fmod (b : Int) = ((a % b : Nat) : Int) := by rw [Int.fmod_eq_emod_of_nonneg _ (Int.natCast_nonneg b), Int.natCast_emod]
theorem fdiv_nat (a b : Nat) : ((a : Nat) : Int).fdiv (b : Int) = ((a / b : Nat) : Int) := by rw [Int.fdiv_eq_ediv_of_nonneg _ (Int.natCast_nonneg b), Int.natCast_ediv]
theorem bne0 (q : Nat) : (((q : Nat) : Int) != 0) = (q != 0) := by rw [Bool.eq_iff_iff, bne_iff_ne, bne_iff_ne]; (first | lia | omega)
theorem ofSsp : Str.ofString " " = mkS [32] := by decide +kernel
theorem ofSnl : Str.ofString "\n" = mkS [10] := by decide +kernel
theorem ofSk : ∀ c ∈ (Str.ofString "kept").cps.toList, c < 128 := by decide +kernel
theorem chr_c (x : Int) : ∃ c : Nat, (33 + (x.fdiv 4).fmod 94 : Int) = c ∧ c ≤ 200 := by
  have := fm_ok (x.fdiv 4) (k := 94) (by decide)
  exact ⟨(33 + (x.fdiv 4).fmod 94).toNat, by (first | lia | omega), by (first | lia | omega)⟩
theorem rep_one (k : Nat) (m : List Nat) : (List.replicate k [PV.str (mkS m)]).flatten = (List.replicate k m).map maP := by
  induction k with
  | zero => rfl
  | succ k ih => rw [List.replicate_succ, List.flatten_cons, ih, List.replicate_succ]; rfl
theorem cut_map {α β : Type} (f : α → β) (xs : List α) (lo hi : Option Int) : cut (xs.map f) lo hi = (cut xs lo hi).map f := by
  unfold cut; rw [List.length_map, List.map_take, List.map_drop]
theorem cut_1_63 (ws : List Int) : (cut ws (some 1) (some 63)).length ≤ 62 := by
  show (cut ws (some ((1 : Nat) : Int)) (some ((63 : Nat) : Int))).length ≤ 62
  unfold cut
  simp only [Option.elim, clip_nat]
  rw [List.length_take, List.length_drop]
  exact Nat.le_trans (Nat.min_le_left _ _) (by (first | lia | omega))
theorem rngDown (M : Nat) : rngInts (M : Int) (-1) (-1) = (List.range (M + 1)).map fun i => ((M - i : Nat) : Int) := by
  have hsz : (Builtin.Range.rangeSize (M : Int) (-1) (-1)).toNat = M + 1 := by
    unfold Builtin.Range.rangeSize
    rw [if_neg (by decide), if_pos (by (first | lia | omega))]
    simp
  unfold rngInts
  rw [hsz]
  refine List.map_congr_left fun i hi => ?_
  have := List.mem_range.mp hi
  (first | lia | omega)
end Mine
end
section
namespace Mine
theorem idx_T {H : LH} {Q : PV → LH → Prop} {xs : List PV} {p : PV} {k : Nat} (hp : xs[k]? = some p) (hb : xs.length < 2 ^ 62) (h : Q p H) : idxW (.tup xs) (.int (k : Int)) H Q := by
  have hk := (List.getElem?_eq_some_iff.mp hp).1
  exact ⟨by (first | lia | omega), p, by rw [seqIndex_nat hk]; exact hp, h⟩
theorem pcn_len (w M : Nat) (T : List Tk) (hP : PW [] T) (j : Nat) : (pcn w M T j).length ≤ (flat T).length + 3 := by
  have hA : ∀ n, isMk (mkF [] (atk w M T n)) := fun n => by
    refine mkF_isMk [] _ ?_ (.inl rfl)
    unfold atk
    split
    · have := (PW_app [] (cutA (n * w) T) (cutB (n * w) T)).mp (by rw [cut_app]; exact hP)
      exact this.1
    · exact hP
  have h1 := pre_len _ (hA j)
  have h2 := post_len (mkF [] (atk w M T (j + 1)))
  unfold pcn
  rw [List.length_append, List.length_append, List.length_take, List.length_drop]
  (first | lia | omega)
noncomputable def whT (w M : Nat) (T : List Tk) (i : Nat) : List Nat := if i = 0 then [] else pre (mkF [] (cutA ((M + 1 - i) * w) T)) ++ flat (cutB ((M + 1 - i) * w) T)
theorem whT_last (w M : Nat) (T : List Tk) : whT w M T (M + 1) = flat T := by
  unfold whT
  rw [if_neg (by (first | lia | omega)), Nat.sub_self, Nat.zero_mul]
  cases T <;> rfl
theorem whT_len (w M : Nat) (T : List Tk) (hP : PW [] T) (i : Nat) : (whT w M T i).length ≤ (flat T).length + 2 := by
  unfold whT
  split
  · simp
  · have := (PW_app [] (cutA ((M + 1 - i) * w) T) (cutB ((M + 1 - i) * w) T)).mp (by rw [cut_app]; exact hP)
    have h1 := pre_len _ (mkF_isMk [] _ this.1 (.inl rfl))
    have h2 := congrArg (fun l => (flat l).length) (cut_app ((M + 1 - i) * w) T)
    simp only [flat_app, List.length_append] at h2
    rw [List.length_append]; (first | lia | omega)
/-- a row more joined, the last one -/
theorem whT_first (w M : Nat) (T : List Tk) (hc : mkF [] T = []) : pcn w M T M ++ whT w M T 0 = whT w M T 1 := by
  rw [pcn_last w M T hc]
  unfold whT
  rw [if_pos rfl, if_neg (by (first | lia | omega)), List.append_nil, Nat.add_sub_cancel]
/-- a row more joined, one ahead of it -/
theorem whT_next (w M : Nat) (T : List Tk) (k i : Nat) (hi : i + k = M) (h0 : i ≠ 0) (X Y : List Nat) (m : List Nat) (hm : m = mkF [] (cutA ((k + 1) * w) T)) (e1 : pcn w M T k = X ++ post m) (e2 : whT w M T i = pre m ++ Y) : X ++ Y = whT w M T (i + 1) := by
  have hk : M + 1 - (i + 1) = k := by (first | lia | omega)
  have hk' : M + 1 - i = k + 1 := by (first | lia | omega)
  have h1 := pcn_mid w M T k (by (first | lia | omega))
  rw [← hm, e1] at h1
  have hX := List.append_cancel_right h1
  unfold whT at e2
  rw [if_neg h0, hk', ← hm] at e2
  have hY := List.append_cancel_left e2
  unfold whT
  rw [if_neg (by (first | lia | omega)), hk, hX, ← hY]
  exact rejoin w M T k (by (first | lia | omega))
theorem dropLast_post (X : List Nat) (k : Nat) (r : List Nat) : (X ++ post (k :: r)).dropLast = X := by simp [post]
noncomputable def rowKind : PV → PV
  | .tup [a, _] => a
  | p => p
theorem kinds (number : PV) (P : List (List Nat)) (M : Nat) (h : P.length = M + 1) :
    (rowsOf number P).map rowKind = number :: (List.replicate M [PV.str (mkS [62])]).flatten := by
  cases P with
  | nil => simp at h
  | cons p ps =>
    have hl : ps.length = M := by simpa using h
    simp only [rowsOf, List.map_cons, List.map_map, rowKind, List.cons.injEq, true_and]
    subst hl
    clear h
    induction ps with
    | nil => rfl
    | cons q ps ih => rw [List.map_cons, ih, List.length_cons, List.replicate_succ]; rfl
theorem rows_get (number : PV) (f : Nat → List Nat) (M j : Nat) (hj : j ≤ M) : ∃ x, (rowsOf number ((List.range (M + 1)).map f))[j]? = some (.tup [x, .str (mkS (f j))]) := by
  rw [List.range_succ_eq_map]
  cases j with
  | zero => exact ⟨number, rfl⟩
  | succ j => exact ⟨.str (mkS [62]), by
      simp only [List.map_cons, List.map_map, rowsOf, List.getElem?_cons_succ]
      rw [List.getElem?_map, List.getElem?_range (by (first | lia | omega))]; rfl⟩
end Mine
end
namespace Mine
def nthStmt (p : Program) (i : Nat) : Stmt := (p.main.body.drop i).headD (.Pass ⟨0, 0, 0, 0⟩)
def st0 : Stmt := nthStmt PySem.Challenge.pw_dm0063_11 0
def st1 : Stmt := nthStmt PySem.Challenge.pw_dm0063_11 1
def st2 : Stmt := nthStmt PySem.Challenge.pw_dm0063_11 2
def st3 : Stmt := nthStmt PySem.Challenge.pw_dm0063_11 3
def st4 : Stmt := nthStmt PySem.Challenge.pw_dm0063_11 4
def st5 : Stmt := nthStmt PySem.Challenge.pw_dm0063_11 5
def st6 : Stmt := nthStmt PySem.Challenge.pw_dm0063_11 6
def st7 : Stmt := nthStmt PySem.Challenge.pw_dm0063_11 7
def st8 : Stmt := nthStmt PySem.Challenge.pw_dm0063_11 8
def st9 : Stmt := nthStmt PySem.Challenge.pw_dm0063_11 9
def st10 : Stmt := nthStmt PySem.Challenge.pw_dm0063_11 10
def st11 : Stmt := nthStmt PySem.Challenge.pw_dm0063_11 11
/-- the first of two (the second: a def with a def in it, as the head looks for one) -/
def fstOf (a _ : Stmt) : Stmt := a
def ownProg : Program := { PySem.Challenge.pw_dm0063_11 with main := { PySem.Challenge.pw_dm0063_11.main with body := [st0, st1, st2, st3, st4, st5, st6, fstOf st7 (.FunctionDef (Str.ofString "f") { posonlyargs := [], args := [], vararg := none, kwonlyargs := [], kw_defaults := [], kwarg := none, defaults := [] } [.FunctionDef (Str.ofString "f") { posonlyargs := [], args := [], vararg := none, kwonlyargs := [], kw_defaults := [], kwarg := none, defaults := [] } [] [] none [] { kind := .function, names := [], isGenerator := false, isCoroutine := false } none (Str.ofString "f") ⟨0, 0, 0, 0⟩] [] none [] { kind := .function, names := [], isGenerator := false, isCoroutine := false } none (Str.ofString "f") ⟨0, 0, 0, 0⟩), st8, st9, st10, st11] } }
def ownRow : OpenLaw := { PySem.Challenge.rw_dm0063_11 with prog := ownProg }
theorem ownRow_eq : ownRow = PySem.Challenge.rw_dm0063_11 := rfl
def KOk (_ : Params → Frag) : Prop := True
theorem kok_of {x y : Params → Frag} (_ : x = y) : KOk x := trivial
/-- a type that hangs on a text -/
noncomputable def TyAt (α : Type) (s : Str) : Type := @Nat.rec (fun _ => Type) (Unit → α) (fun _ _ => Unit) s.cps.size
noncomputable def atTy {α : Type} (s : Str) (h : TyAt α s = (Unit → α)) (x : α) : TyAt α s := cast h.symm fun _ => x
end Mine
section
local macro_rules | `(tactic| o_head (kmHook $K $_ $_ $_)) => `(tactic| (assumption; exact $K))
noncomputable def Mine.kcap (hc : OpenRow.Holds (OpenLaw.row Mine.ownRow)) : Params → Frag := by
  refine (fun (_ : OpenRow.Holds (OpenLaw.row Mine.ownRow)) (K : Params → Frag) => K) ?a ?b
  w_on
  k_head
end
namespace Mine
noncomputable def kpart : { f : Params → Frag // KOk f } := (atTy (Str.ofString "") rfl ⟨_, kok_of (y := kcap.heap_1) (by delta kcap.heap_1; exact rfl)⟩ : Unit → { f : Params → Frag // KOk f }) ()
noncomputable def kfrag : Params → Frag := fun P => kpart.1 P
theorem kfrag_eq : kfrag = kcap.heap_1 := rfl
end Mine
local macro_rules | `(tactic| o_head (kmHook $_ $as $_ $ts)) => `(tactic| o_head (@kmHook Mine.kfrag $as (fun _ => by kernel_rfl) $ts))
open_top hd11 for Mine.ownRow
section
namespace Mine
theorem tok_nil_flat (m : List Nat) : flat (tok m []) = post m := by cases m <;> rfl
noncomputable def cellP (x : Nat × List Nat) : PV := .tup [.str (mkS [x.1]), .str (mkS x.2)]
theorem marked11 (w : World) : ∃ Fb, Fn (Mine.kcap.heap_1 w.params) w 122 ["cells"] 5 Fb ∧ ∀ (r : Cells) (H : LH) (Q : PV → LH → Prop), okCs r → r.length ≤ 400 → Q (.str (mkS (flat (tok [] r)))) H → callW ["cells"] Fb [.lst (r.map cellP)] H Q := by
  refine' ⟨_, Fn.intro ?ho ?hcd ?hkp ?hco ?hgen ?hk ?hbind ?hkind ?hnn ?hnd ?hb, ?_⟩
  case ho => k_is
  case hcd => k_is
  case hkp => k_is
  case hco => rfl
  case hgen => rfl
  case hk => rfl
  case hbind => exact fun s => bind1 fun a => rfl
  case hkind => decide +kernel
  case hnn => decide
  case hnd => decide +kernel
  case hb =>
    intro h₀ prog G L'
    repeat' (first | with_reducible exact ev_int _ _ _ | with_reducible exact ev_str _ _ _ | with_reducible exact ev_none _ _ | with_reducible exact ev_bool _ _ _ | (with_reducible refine' ev_name _ _ ?_ ?_) | (with_reducible refine' ev_binop ?_ ?_) | (with_reducible refine' ev_neg ?_) | (with_reducible refine' ev_cmp ?_ ?_ ?_) | (with_reducible refine' ev_ifexp ?_ ?_ ?_) | (with_reducible refine' ev_list ?_) | (with_reducible refine' ev_tuple ?_) | with_reducible exact es_nil | (with_reducible refine' es_cons ?_ ?_ ?_) | (with_reducible refine' ev_cut ?_ ?_ ?_) | (with_reducible refine' ev_idx ?_ ?_ ?_) | with_reducible exact pt_none | (with_reducible refine' pt_some ?_) | (with_reducible refine' bt_cmp ?_ ?_ ?_) | (with_reducible refine' bt_not ?_) | (with_reducible refine' bt_bool ?_) | with_reducible exact at_and_nil | with_reducible exact at_or_nil | (with_reducible refine' at_and_cons ?_ ?_) | (with_reducible refine' at_or_cons ?_ ?_) | with_reducible exact xs_nil | (with_reducible refine' xs_cons ?_ ?_) | (with_reducible refine' st_assign ?_ ?_ ?_) | (with_reducible refine' st_aug ?_ ?_ ?_) | (with_reducible refine' st_if ?_ ?_ ?_) | (with_reducible refine' st_append ?_ ?_ ?_ ?_ ?_ ?_) | (with_reducible refine' st_augidx ?_ ?_ ?_ ?_) | (with_reducible refine' st_ret ?_) | with_reducible exact st_ret0 | with_reducible exact st_cont | with_reducible exact st_pass | (with_reducible refine' st_while ?_ ?_) | (with_reducible refine' st_for ?_ (as_name ?_) ?_ ?_ ?_) | (with_reducible refine' ev_len (by assumption) ?_ ?_ ?_ ?_ ?_ ?_ ?_ ?_) | (with_reducible refine' ev_chr (by assumption) ?_ ?_ ?_ ?_ ?_ ?_ ?_ ?_) | (with_reducible refine' ev_range (by assumption) ?_ ?_ ?_ ?_ ?_ ?_ ?_ ?_) | (with_reducible refine' ev_abs (by assumption) ?_ ?_ ?_ ?_ ?_ ?_ ?_ ?_) | (with_reducible refine' ev_count _ ?_ ?_ ?_ ?_ ?_) | (with_reducible refine' ev_split _ ?_ ?_ ?_ ?_ ?_) | (with_reducible refine' ev_index _ ?_ ?_ ?_ ?_) | (with_reducible refine' ev_attr (C := 111) (by assumption) ?_ ?_ ?_ ?_ ?_ ?_) | (with_reducible refine' st_forT ?_ (as_tuple2 (as_name ?_) (as_name ?_) ?_ ?_) ?_ ?_ ?_) | (refine' st_swap2 (x := "text") (y := "last") ?_ rfl rfl ?_ ?_) | (with_reducible refine' st_assignT ?_ (as_tuple2 (as_name ?_) (as_name ?_) ?_ ?_) ?_ ?_) | (with_reducible refine' st_assignT ?_ (as_tuple3 (as_name ?_) (as_name ?_) (as_name ?_) ?_ ?_) ?_ ?_) | (with_reducible refine' ev_partition _ ?_ ?_ ?_ ?_ ?_) | (with_reducible refine' st_extend ?_ ?_ ?_ ?_ ?_ ?_) | (rintro _ _ _ ⟨_, _, rfl, _⟩; exact ⟨_, rfl⟩) | with_reducible exact ts_nil | (with_reducible refine' ts_one ?_) | ((with_reducible show nsIn _ _ _ = _); k_is) | ((with_reducible show plainGet _ _ _ = _); k_is) | ((with_reducible show hasDictIn _ _ = _); k_is) | ((with_reducible show findIn _ _ _ = _); k_is) | ((with_reducible show noGet _ _ = _); k_is) | ((with_reducible show Stores _ _); first | exact Or.inl rfl | exact Or.inr ⟨rfl, rfl⟩) | ((with_reducible show (_ == _) = false); decide) | ((with_reducible show behindInMarks _ _ = _); with_unfolding_all rfl) | ((with_reducible show _ ≤ _); decide) | ((with_reducible show _ = _); rfl) | ((with_reducible show ∀ _, _ = _); intro _; rfl) | ((with_reducible show ∀ _ _, _ = _); intro _ _; rfl) | ((with_reducible show ∀ _ _ _, _ = _); intro _ _ _; rfl) | (with_reducible refine' bt_val ?_ ?_))
  intro r H Q hr hl hq
  unfold callW
  refine seq_to _ (fun R hR => ⟨by decide, _, _, rfl, hR⟩) ?_
  refine seq_ex (fun σ => σ.loc "text" = some (.str (mkS (flat (tok [] r)))) ∧ σ.H = H.ro) (fun R hR => ?_) ?_
  case refine_2 => exact fun σ h => seq_ret σ (fun R hR => get_W h.1 hR) (.inl hq)
  simp only [Loc.set_apply, argLoc_cons, argLoc_nil, String.reduceEq, reduceIte, getW_some]
  refine ⟨by decide, by decide, listW_lst (bin_addLL (by rw [List.length_map, sizeLine_eq]; simp; (first | lia | omega)) (listW_lst ⟨_, rfl, ?_⟩))⟩
  simp only [ofS0, ofS1, ofSe]
  refine forW_inv (fun rest σ => (∃ (D : List Tk) (todo : Cells), rest = todo.map cellP ++ [.tup [.str (mkS []), .str (mkS [])]] ∧ σ.loc "text" = some (.str (mkS (flat D))) ∧ σ.loc "last" = some (.str (mkS (mkF [] D))) ∧ PW [] D ∧ D ++ tok (mkF [] D) todo = tok [] r ∧ okCs todo ∧ (flat D).length + 4 * todo.length ≤ 1604 ∧ σ.H = H.ro) ∨ (rest = [] ∧ σ.loc "text" = some (.str (mkS (flat (tok [] r)))) ∧ σ.H = H.ro)) ?step ?fin _ _ ?init
  case init => exact .inl ⟨[], r, rfl, rfl, rfl, trivial, rfl, hr, by simp [flat]; (first | lia | omega), rfl⟩
  case fin =>
    rintro σ (⟨D, todo, er, _⟩ | ⟨_, l1, l4⟩)
    · cases todo <;> cases er
    · exact hR σ ⟨l1, l4⟩
  case step =>
    intro p rr σ K hI kn kc
    refine hide fun Gh kh => ?_
    obtain ⟨D, s, m, rfl, l1, l2, l4, hs, hm, hlen, hfin⟩ : ∃ (D : List Tk) (s m : List Nat), p = .tup [.str (mkS s), .str (mkS m)] ∧ σ.loc "text" = some (.str (mkS (flat D))) ∧ σ.loc "last" = some (.str (mkS (mkF [] D))) ∧ σ.H = H.ro ∧ s.length ≤ 1 ∧ m.length ≤ 1 ∧ (flat D).length + (post (mkF [] D)).length + (pre m).length + s.length ≤ 2000 ∧
        ∀ σ', σ'.loc "text" = some (.str (mkS (flat D ++ (if m = mkF [] D then [] else post (mkF [] D) ++ pre m) ++ s))) → σ'.loc "last" = some (.str (mkS m)) → σ'.H = H.ro → K .next σ' := by
      clear kh
      rcases hI with ⟨D, todo, er, l1, l2, hD, htok, hok, hlen, l4⟩ | ⟨er, _, _⟩
      · have hpo := post_len (mkF [] D)
        cases todo with
        | nil =>
          cases er
          simp only [List.length_nil] at hlen
          refine ⟨D, [], [], rfl, l1, l2, l4, by simp, by simp, by simp [pre]; (first | lia | omega), fun σ' k1 k2 k3 => kn _ (.inr ⟨rfl, ?_, k3⟩)⟩
          rw [k1, ← htok]
          by_cases hne : ([] : List Nat) = mkF [] D
          · rw [if_pos hne, ← hne]; simp [tok]
          · rw [if_neg hne, flat_app, tok_nil_flat]; simp [pre]
        | cons x todo =>
          cases er
          obtain ⟨c, m⟩ := x
          have hx : 2 ≤ c ∧ isMk m := hok (c, m) List.mem_cons_self
          have hm1 : m.length ≤ 1 := by rcases hx.2 with e | ⟨k, _, e⟩ <;> rw [e] <;> simp
          have hpl := pre_len m hx.2
          obtain ⟨f1, f2, f3, f4⟩ := swT_ok D m hD hx.2
          simp only [List.length_cons] at hlen
          refine ⟨D, [c], m, rfl, l1, l2, l4, by simp, hm1, by simp; (first | lia | omega), fun σ' k1 k2 k3 => kn _ (.inl ?_)⟩
          by_cases hne : m = mkF [] D
          · rw [if_pos hne, List.append_nil] at k1
            exact ⟨D ++ [.sg c], todo, rfl, by rw [k1, flat_app]; rfl, by rw [k2, mkF_app, hne]; rfl, by rw [PW_app]; exact ⟨hD, hx.1, trivial⟩, by rw [← htok]; simp [tok, sw1, hne, mkF_app, mkF], fun y hy => hok y (List.mem_cons_of_mem _ hy), by rw [flat_app, List.length_append]; show _ + 1 + _ ≤ _; (first | lia | omega), k3⟩
          · rw [if_neg hne] at k1
            exact ⟨D ++ swT (mkF [] D) m ++ [.sg c], todo, rfl, by rw [k1, flat_app _ [Tk.sg c], f3, ← List.append_assoc]; rfl, by rw [k2, mkF_app, f2]; rfl, by rw [PW_app, f2]; exact ⟨f1, hx.1, trivial⟩, by rw [← htok, mkF_app, f2]; simp [tok, sw1, hne, mkF], fun y hy => hok y (List.mem_cons_of_mem _ hy), by rw [flat_app, f3, List.length_append, List.length_append, List.length_append]; show _ + 1 + _ ≤ _; (first | lia | omega), k3⟩
      · cases er
    refine kh ?_
    clear kh Gh
    refine ⟨_, _, rfl, ?_⟩
    refine seq_ex (fun σ' => σ'.loc "text" = some (.str (mkS (flat D ++ (if m = mkF [] D then [] else post (mkF [] D) ++ pre m)))) ∧ σ'.loc "sign" = some (.str (mkS s)) ∧ σ'.loc "mark" = some (.str (mkS m)) ∧ σ'.H = H.ro) (fun R hR => ?_) (fun σ' h => ?_)
    · simp only [Loc.set_apply, String.reduceEq, reduceIte, getW_some, l1, l2, l4]
      refine cmp_neS ?_
      by_cases hne : m = mkF [] D
      · rw [if_neg (by rw [hne]; simp)]
        exact hR _ ⟨by simp only [Loc.set_apply, String.reduceEq, reduceIte, l1, if_pos hne, List.append_nil], rfl, rfl, rfl⟩
      · rw [if_pos (by rw [bne, mkS_beq]; simpa using hne)]
        refine' seq_to _ (fun R' hR' => ?a1) ?a2
        case a1 =>
          simp only [Loc.set_apply, String.reduceEq, reduceIte, getW_some, l1, l2]
          refine cmp_neS (ifexp_post (R := fun v => binW .Add (.str _) v _ _) (bin_addS (x := mkS (flat D)) (y := mkS (post (mkF [] D))) (by rw [mkS_len, mkS_len, sizeLine_eq]; (first | lia | omega)) ?_))
          rw [mkS_append]
          refine cmp_neS (ifexp_pre (R := fun v H => binW .Add (.str _) v H _) hm (bin_addS (x := mkS _) (y := mkS _) (by rw [mkS_len, mkS_len, sizeLine_eq, List.length_append]; (first | lia | omega)) ?_))
          rw [mkS_append]
          exact hR'
        case a2 => exact hR _ ⟨by simp only [Loc.set_apply, String.reduceEq, reduceIte, if_neg hne, List.append_assoc], rfl, rfl, rfl⟩
    · obtain ⟨k1, k2, k3, k4⟩ := h
      refine seq_to ⟨(σ'.loc.set "last" (.str (mkS m))).set "text" (.str (mkS (flat D ++ (if m = mkF [] D then [] else post (mkF [] D) ++ pre m) ++ s))), σ'.H⟩ (fun R hR => ?b1) ?b2
      case b1 =>
        refine get_W k1 (get_W k2 (bin_addS ?_ ?_))
        · rw [mkS_len, mkS_len, sizeLine_eq, List.length_append]
          split
          · simp only [List.length_nil]; (first | lia | omega)
          · rw [List.length_append]; (first | lia | omega)
        · rw [mkS_append]
          exact get_W k3 ⟨by rw [sizeLine_eq]; simp, _, _, rfl, hR⟩
      case b2 => exact hfin _ rfl rfl k4
theorem read11 (w : World) : ∃ Fb, Fn (Mine.kcap.heap_1 w.params) w 127 ["row"] 5 Fb ∧ ∀ (A : List Tk) (H : LH) (Q : PV → LH → Prop), PW [] A → mkF [] A = [] → (flat A).length ≤ 3000 → Q (.lst ((cellsOf [] A).map cellP)) H → callW ["row"] Fb [.str (mkS (flat A))] H Q := by
  refine' ⟨_, Fn.intro ?ho ?hcd ?hkp ?hco ?hgen ?hk ?hbind ?hkind ?hnn ?hnd ?hb, ?_⟩
  case ho => k_is
  case hcd => k_is
  case hkp => k_is
  case hco => rfl
  case hgen => rfl
  case hk => rfl
  case hbind => exact fun s => bind1 fun a => rfl
  case hkind => decide +kernel
  case hnn => decide
  case hnd => decide +kernel
  case hb =>
    intro h₀ prog G L'
    with_reducible refine' xs_cons ?sa0 ?ta0
    case sa0 =>
      repeat' (first | with_reducible exact ev_int _ _ _ | with_reducible exact ev_str _ _ _ | with_reducible exact ev_none _ _ | with_reducible exact ev_bool _ _ _ | (with_reducible refine' ev_name _ _ ?_ ?_) | (with_reducible refine' ev_binop ?_ ?_) | (with_reducible refine' ev_neg ?_) | (with_reducible refine' ev_cmp ?_ ?_ ?_) | (with_reducible refine' ev_ifexp ?_ ?_ ?_) | (with_reducible refine' ev_list ?_) | (with_reducible refine' ev_tuple ?_) | with_reducible exact es_nil | (with_reducible refine' es_cons ?_ ?_ ?_) | (with_reducible refine' ev_cut ?_ ?_ ?_) | (with_reducible refine' ev_idx ?_ ?_ ?_) | with_reducible exact pt_none | (with_reducible refine' pt_some ?_) | (with_reducible refine' bt_cmp ?_ ?_ ?_) | (with_reducible refine' bt_not ?_) | (with_reducible refine' bt_bool ?_) | with_reducible exact at_and_nil | with_reducible exact at_or_nil | (with_reducible refine' at_and_cons ?_ ?_) | (with_reducible refine' at_or_cons ?_ ?_) | with_reducible exact xs_nil | (with_reducible refine' xs_cons ?_ ?_) | (with_reducible refine' st_assign ?_ ?_ ?_) | (with_reducible refine' st_aug ?_ ?_ ?_) | (with_reducible refine' st_if ?_ ?_ ?_) | (with_reducible refine' st_append ?_ ?_ ?_ ?_ ?_ ?_) | (with_reducible refine' st_augidx ?_ ?_ ?_ ?_) | (with_reducible refine' st_ret ?_) | with_reducible exact st_ret0 | with_reducible exact st_cont | with_reducible exact st_pass | (with_reducible refine' st_while ?_ ?_) | (with_reducible refine' st_for ?_ (as_name ?_) ?_ ?_ ?_) | (with_reducible refine' ev_len (by assumption) ?_ ?_ ?_ ?_ ?_ ?_ ?_ ?_) | (with_reducible refine' ev_chr (by assumption) ?_ ?_ ?_ ?_ ?_ ?_ ?_ ?_) | (with_reducible refine' ev_range (by assumption) ?_ ?_ ?_ ?_ ?_ ?_ ?_ ?_) | (with_reducible refine' ev_abs (by assumption) ?_ ?_ ?_ ?_ ?_ ?_ ?_ ?_) | (with_reducible refine' ev_count _ ?_ ?_ ?_ ?_ ?_) | (with_reducible refine' ev_split _ ?_ ?_ ?_ ?_ ?_) | (with_reducible refine' ev_index _ ?_ ?_ ?_ ?_) | (with_reducible refine' ev_attr (C := 111) (by assumption) ?_ ?_ ?_ ?_ ?_ ?_) | (with_reducible refine' st_forT ?_ (as_tuple2 (as_name ?_) (as_name ?_) ?_ ?_) ?_ ?_ ?_) | (refine' st_swap2 (x := "text") (y := "last") ?_ rfl rfl ?_ ?_) | (with_reducible refine' st_assignT ?_ (as_tuple2 (as_name ?_) (as_name ?_) ?_ ?_) ?_ ?_) | (with_reducible refine' st_assignT ?_ (as_tuple3 (as_name ?_) (as_name ?_) (as_name ?_) ?_ ?_) ?_ ?_) | (with_reducible refine' ev_partition _ ?_ ?_ ?_ ?_ ?_) | (with_reducible refine' st_extend ?_ ?_ ?_ ?_ ?_ ?_) | (rintro _ _ _ ⟨_, _, rfl, _⟩; exact ⟨_, rfl⟩) | with_reducible exact ts_nil | (with_reducible refine' ts_one ?_) | ((with_reducible show nsIn _ _ _ = _); k_is) | ((with_reducible show plainGet _ _ _ = _); k_is) | ((with_reducible show hasDictIn _ _ = _); k_is) | ((with_reducible show findIn _ _ _ = _); k_is) | ((with_reducible show noGet _ _ = _); k_is) | ((with_reducible show Stores _ _); first | exact Or.inl rfl | exact Or.inr ⟨rfl, rfl⟩) | ((with_reducible show (_ == _) = false); decide) | ((with_reducible show behindInMarks _ _ = _); with_unfolding_all rfl) | ((with_reducible show _ ≤ _); decide) | ((with_reducible show _ = _); rfl) | ((with_reducible show ∀ _, _ = _); intro _; rfl) | ((with_reducible show ∀ _ _, _ = _); intro _ _; rfl) | ((with_reducible show ∀ _ _ _, _ = _); intro _ _ _; rfl) | (with_reducible refine' bt_val ?_ ?_))
    case ta0 =>
      with_reducible refine' xs_cons ?sa1 ?ta1
      case sa1 =>
        refine' st_assign_comp (caps := []) ?hiA ?hclosA ?cpA ?hcellA ?hnamesA ?haA ?htA ?heA ?hstA ?hswA ?htgA ?hsA
        case hstA => exact Or.inl rfl
        case hswA => rfl
        case hclosA => rfl
        case cpA => exact ⟨fun p hp => (nomatch hp), List.nodup_nil, rfl, fun C y hy => (nomatch hy)⟩
        case hcellA => decide
        case hnamesA => decide
        case htgA => intro _ _; rfl
        case hsA => intro _; rfl
        case haA => exact fun C => ac_name rfl
        case hiA => repeat' (first | with_reducible exact ev_int _ _ _ | with_reducible exact ev_str _ _ _ | with_reducible exact ev_none _ _ | with_reducible exact ev_bool _ _ _ | (with_reducible refine' ev_name _ _ ?_ ?_) | (with_reducible refine' ev_binop ?_ ?_) | (with_reducible refine' ev_neg ?_) | (with_reducible refine' ev_cmp ?_ ?_ ?_) | (with_reducible refine' ev_ifexp ?_ ?_ ?_) | (with_reducible refine' ev_list ?_) | (with_reducible refine' ev_tuple ?_) | with_reducible exact es_nil | (with_reducible refine' es_cons ?_ ?_ ?_) | (with_reducible refine' ev_cut ?_ ?_ ?_) | (with_reducible refine' ev_idx ?_ ?_ ?_) | with_reducible exact pt_none | (with_reducible refine' pt_some ?_) | (with_reducible refine' bt_cmp ?_ ?_ ?_) | (with_reducible refine' bt_not ?_) | (with_reducible refine' bt_bool ?_) | with_reducible exact at_and_nil | with_reducible exact at_or_nil | (with_reducible refine' at_and_cons ?_ ?_) | (with_reducible refine' at_or_cons ?_ ?_) | with_reducible exact xs_nil | (with_reducible refine' xs_cons ?_ ?_) | (with_reducible refine' st_assign ?_ ?_ ?_) | (with_reducible refine' st_aug ?_ ?_ ?_) | (with_reducible refine' st_if ?_ ?_ ?_) | (with_reducible refine' st_append ?_ ?_ ?_ ?_ ?_ ?_) | (with_reducible refine' st_augidx ?_ ?_ ?_ ?_) | (with_reducible refine' st_ret ?_) | with_reducible exact st_ret0 | with_reducible exact st_cont | with_reducible exact st_pass | (with_reducible refine' st_while ?_ ?_) | (with_reducible refine' st_for ?_ (as_name ?_) ?_ ?_ ?_) | (with_reducible refine' ev_len (by assumption) ?_ ?_ ?_ ?_ ?_ ?_ ?_ ?_) | (with_reducible refine' ev_chr (by assumption) ?_ ?_ ?_ ?_ ?_ ?_ ?_ ?_) | (with_reducible refine' ev_range (by assumption) ?_ ?_ ?_ ?_ ?_ ?_ ?_ ?_) | (with_reducible refine' ev_abs (by assumption) ?_ ?_ ?_ ?_ ?_ ?_ ?_ ?_) | (with_reducible refine' ev_count _ ?_ ?_ ?_ ?_ ?_) | (with_reducible refine' ev_split _ ?_ ?_ ?_ ?_ ?_) | (with_reducible refine' ev_index _ ?_ ?_ ?_ ?_) | (with_reducible refine' ev_attr (C := 111) (by assumption) ?_ ?_ ?_ ?_ ?_ ?_) | (with_reducible refine' st_forT ?_ (as_tuple2 (as_name ?_) (as_name ?_) ?_ ?_) ?_ ?_ ?_) | (refine' st_swap2 (x := "text") (y := "last") ?_ rfl rfl ?_ ?_) | (with_reducible refine' st_assignT ?_ (as_tuple2 (as_name ?_) (as_name ?_) ?_ ?_) ?_ ?_) | (with_reducible refine' st_assignT ?_ (as_tuple3 (as_name ?_) (as_name ?_) (as_name ?_) ?_ ?_) ?_ ?_) | (with_reducible refine' ev_partition _ ?_ ?_ ?_ ?_ ?_) | (with_reducible refine' st_extend ?_ ?_ ?_ ?_ ?_ ?_) | (rintro _ _ _ ⟨_, _, rfl, _⟩; exact ⟨_, rfl⟩) | with_reducible exact ts_nil | (with_reducible refine' ts_one ?_) | ((with_reducible show nsIn _ _ _ = _); k_is) | ((with_reducible show plainGet _ _ _ = _); k_is) | ((with_reducible show hasDictIn _ _ = _); k_is) | ((with_reducible show findIn _ _ _ = _); k_is) | ((with_reducible show noGet _ _ = _); k_is) | ((with_reducible show Stores _ _); first | exact Or.inl rfl | exact Or.inr ⟨rfl, rfl⟩) | ((with_reducible show (_ == _) = false); decide) | ((with_reducible show behindInMarks _ _ = _); with_unfolding_all rfl) | ((with_reducible show _ ≤ _); decide) | ((with_reducible show _ = _); rfl) | ((with_reducible show ∀ _, _ = _); intro _; rfl) | ((with_reducible show ∀ _ _, _ = _); intro _ _; rfl) | ((with_reducible show ∀ _ _ _, _ = _); intro _ _ _; rfl) | (with_reducible refine' bt_val ?_ ?_))
        case htA => intro C; repeat' (first | with_reducible exact ev_int _ _ _ | with_reducible exact ev_str _ _ _ | with_reducible exact ev_none _ _ | with_reducible exact ev_bool _ _ _ | (with_reducible refine' ev_name _ _ ?_ ?_) | (with_reducible refine' ev_binop ?_ ?_) | (with_reducible refine' ev_neg ?_) | (with_reducible refine' ev_cmp ?_ ?_ ?_) | (with_reducible refine' ev_ifexp ?_ ?_ ?_) | (with_reducible refine' ev_list ?_) | (with_reducible refine' ev_tuple ?_) | with_reducible exact es_nil | (with_reducible refine' es_cons ?_ ?_ ?_) | (with_reducible refine' ev_cut ?_ ?_ ?_) | (with_reducible refine' ev_idx ?_ ?_ ?_) | with_reducible exact pt_none | (with_reducible refine' pt_some ?_) | (with_reducible refine' bt_cmp ?_ ?_ ?_) | (with_reducible refine' bt_not ?_) | (with_reducible refine' bt_bool ?_) | with_reducible exact at_and_nil | with_reducible exact at_or_nil | (with_reducible refine' at_and_cons ?_ ?_) | (with_reducible refine' at_or_cons ?_ ?_) | with_reducible exact xs_nil | (with_reducible refine' xs_cons ?_ ?_) | (with_reducible refine' st_assign ?_ ?_ ?_) | (with_reducible refine' st_aug ?_ ?_ ?_) | (with_reducible refine' st_if ?_ ?_ ?_) | (with_reducible refine' st_append ?_ ?_ ?_ ?_ ?_ ?_) | (with_reducible refine' st_augidx ?_ ?_ ?_ ?_) | (with_reducible refine' st_ret ?_) | with_reducible exact st_ret0 | with_reducible exact st_cont | with_reducible exact st_pass | (with_reducible refine' st_while ?_ ?_) | (with_reducible refine' st_for ?_ (as_name ?_) ?_ ?_ ?_) | (with_reducible refine' ev_len (by assumption) ?_ ?_ ?_ ?_ ?_ ?_ ?_ ?_) | (with_reducible refine' ev_chr (by assumption) ?_ ?_ ?_ ?_ ?_ ?_ ?_ ?_) | (with_reducible refine' ev_range (by assumption) ?_ ?_ ?_ ?_ ?_ ?_ ?_ ?_) | (with_reducible refine' ev_abs (by assumption) ?_ ?_ ?_ ?_ ?_ ?_ ?_ ?_) | (with_reducible refine' ev_count _ ?_ ?_ ?_ ?_ ?_) | (with_reducible refine' ev_split _ ?_ ?_ ?_ ?_ ?_) | (with_reducible refine' ev_index _ ?_ ?_ ?_ ?_) | (with_reducible refine' ev_attr (C := 111) (by assumption) ?_ ?_ ?_ ?_ ?_ ?_) | (with_reducible refine' st_forT ?_ (as_tuple2 (as_name ?_) (as_name ?_) ?_ ?_) ?_ ?_ ?_) | (refine' st_swap2 (x := "text") (y := "last") ?_ rfl rfl ?_ ?_) | (with_reducible refine' st_assignT ?_ (as_tuple2 (as_name ?_) (as_name ?_) ?_ ?_) ?_ ?_) | (with_reducible refine' st_assignT ?_ (as_tuple3 (as_name ?_) (as_name ?_) (as_name ?_) ?_ ?_) ?_ ?_) | (with_reducible refine' ev_partition _ ?_ ?_ ?_ ?_ ?_) | (with_reducible refine' st_extend ?_ ?_ ?_ ?_ ?_ ?_) | (rintro _ _ _ ⟨_, _, rfl, _⟩; exact ⟨_, rfl⟩) | with_reducible exact ts_nil | (with_reducible refine' ts_one ?_) | ((with_reducible show nsIn _ _ _ = _); k_is) | ((with_reducible show plainGet _ _ _ = _); k_is) | ((with_reducible show hasDictIn _ _ = _); k_is) | ((with_reducible show findIn _ _ _ = _); k_is) | ((with_reducible show noGet _ _ = _); k_is) | ((with_reducible show Stores _ _); first | exact Or.inl rfl | exact Or.inr ⟨rfl, rfl⟩) | ((with_reducible show (_ == _) = false); decide) | ((with_reducible show behindInMarks _ _ = _); with_unfolding_all rfl) | ((with_reducible show _ ≤ _); decide) | ((with_reducible show _ = _); rfl) | ((with_reducible show ∀ _, _ = _); intro _; rfl) | ((with_reducible show ∀ _ _, _ = _); intro _ _; rfl) | ((with_reducible show ∀ _ _ _, _ = _); intro _ _ _; rfl) | (with_reducible refine' bt_val ?_ ?_))
        case heA => intro C; repeat' (first | with_reducible exact ev_int _ _ _ | with_reducible exact ev_str _ _ _ | with_reducible exact ev_none _ _ | with_reducible exact ev_bool _ _ _ | (with_reducible refine' ev_name _ _ ?_ ?_) | (with_reducible refine' ev_binop ?_ ?_) | (with_reducible refine' ev_neg ?_) | (with_reducible refine' ev_cmp ?_ ?_ ?_) | (with_reducible refine' ev_ifexp ?_ ?_ ?_) | (with_reducible refine' ev_list ?_) | (with_reducible refine' ev_tuple ?_) | with_reducible exact es_nil | (with_reducible refine' es_cons ?_ ?_ ?_) | (with_reducible refine' ev_cut ?_ ?_ ?_) | (with_reducible refine' ev_idx ?_ ?_ ?_) | with_reducible exact pt_none | (with_reducible refine' pt_some ?_) | (with_reducible refine' bt_cmp ?_ ?_ ?_) | (with_reducible refine' bt_not ?_) | (with_reducible refine' bt_bool ?_) | with_reducible exact at_and_nil | with_reducible exact at_or_nil | (with_reducible refine' at_and_cons ?_ ?_) | (with_reducible refine' at_or_cons ?_ ?_) | with_reducible exact xs_nil | (with_reducible refine' xs_cons ?_ ?_) | (with_reducible refine' st_assign ?_ ?_ ?_) | (with_reducible refine' st_aug ?_ ?_ ?_) | (with_reducible refine' st_if ?_ ?_ ?_) | (with_reducible refine' st_append ?_ ?_ ?_ ?_ ?_ ?_) | (with_reducible refine' st_augidx ?_ ?_ ?_ ?_) | (with_reducible refine' st_ret ?_) | with_reducible exact st_ret0 | with_reducible exact st_cont | with_reducible exact st_pass | (with_reducible refine' st_while ?_ ?_) | (with_reducible refine' st_for ?_ (as_name ?_) ?_ ?_ ?_) | (with_reducible refine' ev_len (by assumption) ?_ ?_ ?_ ?_ ?_ ?_ ?_ ?_) | (with_reducible refine' ev_chr (by assumption) ?_ ?_ ?_ ?_ ?_ ?_ ?_ ?_) | (with_reducible refine' ev_range (by assumption) ?_ ?_ ?_ ?_ ?_ ?_ ?_ ?_) | (with_reducible refine' ev_abs (by assumption) ?_ ?_ ?_ ?_ ?_ ?_ ?_ ?_) | (with_reducible refine' ev_count _ ?_ ?_ ?_ ?_ ?_) | (with_reducible refine' ev_split _ ?_ ?_ ?_ ?_ ?_) | (with_reducible refine' ev_index _ ?_ ?_ ?_ ?_) | (with_reducible refine' ev_attr (C := 111) (by assumption) ?_ ?_ ?_ ?_ ?_ ?_) | (with_reducible refine' st_forT ?_ (as_tuple2 (as_name ?_) (as_name ?_) ?_ ?_) ?_ ?_ ?_) | (refine' st_swap2 (x := "text") (y := "last") ?_ rfl rfl ?_ ?_) | (with_reducible refine' st_assignT ?_ (as_tuple2 (as_name ?_) (as_name ?_) ?_ ?_) ?_ ?_) | (with_reducible refine' st_assignT ?_ (as_tuple3 (as_name ?_) (as_name ?_) (as_name ?_) ?_ ?_) ?_ ?_) | (with_reducible refine' ev_partition _ ?_ ?_ ?_ ?_ ?_) | (with_reducible refine' st_extend ?_ ?_ ?_ ?_ ?_ ?_) | (rintro _ _ _ ⟨_, _, rfl, _⟩; exact ⟨_, rfl⟩) | with_reducible exact ts_nil | (with_reducible refine' ts_one ?_) | ((with_reducible show nsIn _ _ _ = _); k_is) | ((with_reducible show plainGet _ _ _ = _); k_is) | ((with_reducible show hasDictIn _ _ = _); k_is) | ((with_reducible show findIn _ _ _ = _); k_is) | ((with_reducible show noGet _ _ = _); k_is) | ((with_reducible show Stores _ _); first | exact Or.inl rfl | exact Or.inr ⟨rfl, rfl⟩) | ((with_reducible show (_ == _) = false); decide) | ((with_reducible show behindInMarks _ _ = _); with_unfolding_all rfl) | ((with_reducible show _ ≤ _); decide) | ((with_reducible show _ = _); rfl) | ((with_reducible show ∀ _, _ = _); intro _; rfl) | ((with_reducible show ∀ _ _, _ = _); intro _ _; rfl) | ((with_reducible show ∀ _ _ _, _ = _); intro _ _ _; rfl) | (with_reducible refine' bt_val ?_ ?_))
      case ta1 =>
        with_reducible refine' xs_cons ?sa2 ?ta2
        case sa2 =>
          with_reducible refine' st_for ?fi (as_name ?fk) ?fb ?fm ?fl
          case fk => first | exact Or.inl rfl | exact Or.inr ⟨rfl, rfl⟩
          case fm => intro _; rfl
          case fl => intro _ _; rfl
          case fi => repeat' (first | with_reducible exact ev_int _ _ _ | with_reducible exact ev_str _ _ _ | with_reducible exact ev_none _ _ | with_reducible exact ev_bool _ _ _ | (with_reducible refine' ev_name _ _ ?_ ?_) | (with_reducible refine' ev_binop ?_ ?_) | (with_reducible refine' ev_neg ?_) | (with_reducible refine' ev_cmp ?_ ?_ ?_) | (with_reducible refine' ev_ifexp ?_ ?_ ?_) | (with_reducible refine' ev_list ?_) | (with_reducible refine' ev_tuple ?_) | with_reducible exact es_nil | (with_reducible refine' es_cons ?_ ?_ ?_) | (with_reducible refine' ev_cut ?_ ?_ ?_) | (with_reducible refine' ev_idx ?_ ?_ ?_) | with_reducible exact pt_none | (with_reducible refine' pt_some ?_) | (with_reducible refine' bt_cmp ?_ ?_ ?_) | (with_reducible refine' bt_not ?_) | (with_reducible refine' bt_bool ?_) | with_reducible exact at_and_nil | with_reducible exact at_or_nil | (with_reducible refine' at_and_cons ?_ ?_) | (with_reducible refine' at_or_cons ?_ ?_) | with_reducible exact xs_nil | (with_reducible refine' xs_cons ?_ ?_) | (with_reducible refine' st_assign ?_ ?_ ?_) | (with_reducible refine' st_aug ?_ ?_ ?_) | (with_reducible refine' st_if ?_ ?_ ?_) | (with_reducible refine' st_append ?_ ?_ ?_ ?_ ?_ ?_) | (with_reducible refine' st_augidx ?_ ?_ ?_ ?_) | (with_reducible refine' st_ret ?_) | with_reducible exact st_ret0 | with_reducible exact st_cont | with_reducible exact st_pass | (with_reducible refine' st_while ?_ ?_) | (with_reducible refine' st_for ?_ (as_name ?_) ?_ ?_ ?_) | (with_reducible refine' ev_len (by assumption) ?_ ?_ ?_ ?_ ?_ ?_ ?_ ?_) | (with_reducible refine' ev_chr (by assumption) ?_ ?_ ?_ ?_ ?_ ?_ ?_ ?_) | (with_reducible refine' ev_range (by assumption) ?_ ?_ ?_ ?_ ?_ ?_ ?_ ?_) | (with_reducible refine' ev_abs (by assumption) ?_ ?_ ?_ ?_ ?_ ?_ ?_ ?_) | (with_reducible refine' ev_count _ ?_ ?_ ?_ ?_ ?_) | (with_reducible refine' ev_split _ ?_ ?_ ?_ ?_ ?_) | (with_reducible refine' ev_index _ ?_ ?_ ?_ ?_) | (with_reducible refine' ev_attr (C := 111) (by assumption) ?_ ?_ ?_ ?_ ?_ ?_) | (with_reducible refine' st_forT ?_ (as_tuple2 (as_name ?_) (as_name ?_) ?_ ?_) ?_ ?_ ?_) | (refine' st_swap2 (x := "text") (y := "last") ?_ rfl rfl ?_ ?_) | (with_reducible refine' st_assignT ?_ (as_tuple2 (as_name ?_) (as_name ?_) ?_ ?_) ?_ ?_) | (with_reducible refine' st_assignT ?_ (as_tuple3 (as_name ?_) (as_name ?_) (as_name ?_) ?_ ?_) ?_ ?_) | (with_reducible refine' ev_partition _ ?_ ?_ ?_ ?_ ?_) | (with_reducible refine' st_extend ?_ ?_ ?_ ?_ ?_ ?_) | (rintro _ _ _ ⟨_, _, rfl, _⟩; exact ⟨_, rfl⟩) | with_reducible exact ts_nil | (with_reducible refine' ts_one ?_) | ((with_reducible show nsIn _ _ _ = _); k_is) | ((with_reducible show plainGet _ _ _ = _); k_is) | ((with_reducible show hasDictIn _ _ = _); k_is) | ((with_reducible show findIn _ _ _ = _); k_is) | ((with_reducible show noGet _ _ = _); k_is) | ((with_reducible show Stores _ _); first | exact Or.inl rfl | exact Or.inr ⟨rfl, rfl⟩) | ((with_reducible show (_ == _) = false); decide) | ((with_reducible show behindInMarks _ _ = _); with_unfolding_all rfl) | ((with_reducible show _ ≤ _); decide) | ((with_reducible show _ = _); rfl) | ((with_reducible show ∀ _, _ = _); intro _; rfl) | ((with_reducible show ∀ _ _, _ = _); intro _ _; rfl) | ((with_reducible show ∀ _ _ _, _ = _); intro _ _ _; rfl) | (with_reducible refine' bt_val ?_ ?_))
          case fb =>
            with_reducible refine' xs_cons ?sb0 ?tb0
            case sb0 =>
              repeat' (first | with_reducible exact ev_int _ _ _ | with_reducible exact ev_str _ _ _ | with_reducible exact ev_none _ _ | with_reducible exact ev_bool _ _ _ | (with_reducible refine' ev_name _ _ ?_ ?_) | (with_reducible refine' ev_binop ?_ ?_) | (with_reducible refine' ev_neg ?_) | (with_reducible refine' ev_cmp ?_ ?_ ?_) | (with_reducible refine' ev_ifexp ?_ ?_ ?_) | (with_reducible refine' ev_list ?_) | (with_reducible refine' ev_tuple ?_) | with_reducible exact es_nil | (with_reducible refine' es_cons ?_ ?_ ?_) | (with_reducible refine' ev_cut ?_ ?_ ?_) | (with_reducible refine' ev_idx ?_ ?_ ?_) | with_reducible exact pt_none | (with_reducible refine' pt_some ?_) | (with_reducible refine' bt_cmp ?_ ?_ ?_) | (with_reducible refine' bt_not ?_) | (with_reducible refine' bt_bool ?_) | with_reducible exact at_and_nil | with_reducible exact at_or_nil | (with_reducible refine' at_and_cons ?_ ?_) | (with_reducible refine' at_or_cons ?_ ?_) | with_reducible exact xs_nil | (with_reducible refine' xs_cons ?_ ?_) | (with_reducible refine' st_assign ?_ ?_ ?_) | (with_reducible refine' st_aug ?_ ?_ ?_) | (with_reducible refine' st_if ?_ ?_ ?_) | (with_reducible refine' st_append ?_ ?_ ?_ ?_ ?_ ?_) | (with_reducible refine' st_augidx ?_ ?_ ?_ ?_) | (with_reducible refine' st_ret ?_) | with_reducible exact st_ret0 | with_reducible exact st_cont | with_reducible exact st_pass | (with_reducible refine' st_while ?_ ?_) | (with_reducible refine' st_for ?_ (as_name ?_) ?_ ?_ ?_) | (with_reducible refine' ev_len (by assumption) ?_ ?_ ?_ ?_ ?_ ?_ ?_ ?_) | (with_reducible refine' ev_chr (by assumption) ?_ ?_ ?_ ?_ ?_ ?_ ?_ ?_) | (with_reducible refine' ev_range (by assumption) ?_ ?_ ?_ ?_ ?_ ?_ ?_ ?_) | (with_reducible refine' ev_abs (by assumption) ?_ ?_ ?_ ?_ ?_ ?_ ?_ ?_) | (with_reducible refine' ev_count _ ?_ ?_ ?_ ?_ ?_) | (with_reducible refine' ev_split _ ?_ ?_ ?_ ?_ ?_) | (with_reducible refine' ev_index _ ?_ ?_ ?_ ?_) | (with_reducible refine' ev_attr (C := 111) (by assumption) ?_ ?_ ?_ ?_ ?_ ?_) | (with_reducible refine' st_forT ?_ (as_tuple2 (as_name ?_) (as_name ?_) ?_ ?_) ?_ ?_ ?_) | (refine' st_swap2 (x := "text") (y := "last") ?_ rfl rfl ?_ ?_) | (with_reducible refine' st_assignT ?_ (as_tuple2 (as_name ?_) (as_name ?_) ?_ ?_) ?_ ?_) | (with_reducible refine' st_assignT ?_ (as_tuple3 (as_name ?_) (as_name ?_) (as_name ?_) ?_ ?_) ?_ ?_) | (with_reducible refine' ev_partition _ ?_ ?_ ?_ ?_ ?_) | (with_reducible refine' st_extend ?_ ?_ ?_ ?_ ?_ ?_) | (rintro _ _ _ ⟨_, _, rfl, _⟩; exact ⟨_, rfl⟩) | with_reducible exact ts_nil | (with_reducible refine' ts_one ?_) | ((with_reducible show nsIn _ _ _ = _); k_is) | ((with_reducible show plainGet _ _ _ = _); k_is) | ((with_reducible show hasDictIn _ _ = _); k_is) | ((with_reducible show findIn _ _ _ = _); k_is) | ((with_reducible show noGet _ _ = _); k_is) | ((with_reducible show Stores _ _); first | exact Or.inl rfl | exact Or.inr ⟨rfl, rfl⟩) | ((with_reducible show (_ == _) = false); decide) | ((with_reducible show behindInMarks _ _ = _); with_unfolding_all rfl) | ((with_reducible show _ ≤ _); decide) | ((with_reducible show _ = _); rfl) | ((with_reducible show ∀ _, _ = _); intro _; rfl) | ((with_reducible show ∀ _ _, _ = _); intro _ _; rfl) | ((with_reducible show ∀ _ _ _, _ = _); intro _ _ _; rfl) | (with_reducible refine' bt_val ?_ ?_))
            case tb0 =>
              with_reducible refine' xs_cons ?sb1 ?tb1
              case sb1 =>
                repeat' (first | with_reducible exact ev_int _ _ _ | with_reducible exact ev_str _ _ _ | with_reducible exact ev_none _ _ | with_reducible exact ev_bool _ _ _ | (with_reducible refine' ev_name _ _ ?_ ?_) | (with_reducible refine' ev_binop ?_ ?_) | (with_reducible refine' ev_neg ?_) | (with_reducible refine' ev_cmp ?_ ?_ ?_) | (with_reducible refine' ev_ifexp ?_ ?_ ?_) | (with_reducible refine' ev_list ?_) | (with_reducible refine' ev_tuple ?_) | with_reducible exact es_nil | (with_reducible refine' es_cons ?_ ?_ ?_) | (with_reducible refine' ev_cut ?_ ?_ ?_) | (with_reducible refine' ev_idx ?_ ?_ ?_) | with_reducible exact pt_none | (with_reducible refine' pt_some ?_) | (with_reducible refine' bt_cmp ?_ ?_ ?_) | (with_reducible refine' bt_not ?_) | (with_reducible refine' bt_bool ?_) | with_reducible exact at_and_nil | with_reducible exact at_or_nil | (with_reducible refine' at_and_cons ?_ ?_) | (with_reducible refine' at_or_cons ?_ ?_) | with_reducible exact xs_nil | (with_reducible refine' xs_cons ?_ ?_) | (with_reducible refine' st_assign ?_ ?_ ?_) | (with_reducible refine' st_aug ?_ ?_ ?_) | (with_reducible refine' st_if ?_ ?_ ?_) | (with_reducible refine' st_append ?_ ?_ ?_ ?_ ?_ ?_) | (with_reducible refine' st_augidx ?_ ?_ ?_ ?_) | (with_reducible refine' st_ret ?_) | with_reducible exact st_ret0 | with_reducible exact st_cont | with_reducible exact st_pass | (with_reducible refine' st_while ?_ ?_) | (with_reducible refine' st_for ?_ (as_name ?_) ?_ ?_ ?_) | (with_reducible refine' ev_len (by assumption) ?_ ?_ ?_ ?_ ?_ ?_ ?_ ?_) | (with_reducible refine' ev_chr (by assumption) ?_ ?_ ?_ ?_ ?_ ?_ ?_ ?_) | (with_reducible refine' ev_range (by assumption) ?_ ?_ ?_ ?_ ?_ ?_ ?_ ?_) | (with_reducible refine' ev_abs (by assumption) ?_ ?_ ?_ ?_ ?_ ?_ ?_ ?_) | (with_reducible refine' ev_count _ ?_ ?_ ?_ ?_ ?_) | (with_reducible refine' ev_split _ ?_ ?_ ?_ ?_ ?_) | (with_reducible refine' ev_index _ ?_ ?_ ?_ ?_) | (with_reducible refine' ev_attr (C := 111) (by assumption) ?_ ?_ ?_ ?_ ?_ ?_) | (with_reducible refine' st_forT ?_ (as_tuple2 (as_name ?_) (as_name ?_) ?_ ?_) ?_ ?_ ?_) | (refine' st_swap2 (x := "text") (y := "last") ?_ rfl rfl ?_ ?_) | (with_reducible refine' st_assignT ?_ (as_tuple2 (as_name ?_) (as_name ?_) ?_ ?_) ?_ ?_) | (with_reducible refine' st_assignT ?_ (as_tuple3 (as_name ?_) (as_name ?_) (as_name ?_) ?_ ?_) ?_ ?_) | (with_reducible refine' ev_partition _ ?_ ?_ ?_ ?_ ?_) | (with_reducible refine' st_extend ?_ ?_ ?_ ?_ ?_ ?_) | (rintro _ _ _ ⟨_, _, rfl, _⟩; exact ⟨_, rfl⟩) | with_reducible exact ts_nil | (with_reducible refine' ts_one ?_) | ((with_reducible show nsIn _ _ _ = _); k_is) | ((with_reducible show plainGet _ _ _ = _); k_is) | ((with_reducible show hasDictIn _ _ = _); k_is) | ((with_reducible show findIn _ _ _ = _); k_is) | ((with_reducible show noGet _ _ = _); k_is) | ((with_reducible show Stores _ _); first | exact Or.inl rfl | exact Or.inr ⟨rfl, rfl⟩) | ((with_reducible show (_ == _) = false); decide) | ((with_reducible show behindInMarks _ _ = _); with_unfolding_all rfl) | ((with_reducible show _ ≤ _); decide) | ((with_reducible show _ = _); rfl) | ((with_reducible show ∀ _, _ = _); intro _; rfl) | ((with_reducible show ∀ _ _, _ = _); intro _ _; rfl) | ((with_reducible show ∀ _ _ _, _ = _); intro _ _ _; rfl) | (with_reducible refine' bt_val ?_ ?_))
              case tb1 =>
                with_reducible refine' xs_cons ?sb2 ?tb2
                case sb2 =>
                  with_reducible refine' st_extend ?eo ?ee ?em ?es ?ei ?ew
                  case em => rfl
                  case es => rfl
                  case ei => rfl
                  case ew => rfl
                  case eo => repeat' (first | with_reducible exact ev_int _ _ _ | with_reducible exact ev_str _ _ _ | with_reducible exact ev_none _ _ | with_reducible exact ev_bool _ _ _ | (with_reducible refine' ev_name _ _ ?_ ?_) | (with_reducible refine' ev_binop ?_ ?_) | (with_reducible refine' ev_neg ?_) | (with_reducible refine' ev_cmp ?_ ?_ ?_) | (with_reducible refine' ev_ifexp ?_ ?_ ?_) | (with_reducible refine' ev_list ?_) | (with_reducible refine' ev_tuple ?_) | with_reducible exact es_nil | (with_reducible refine' es_cons ?_ ?_ ?_) | (with_reducible refine' ev_cut ?_ ?_ ?_) | (with_reducible refine' ev_idx ?_ ?_ ?_) | with_reducible exact pt_none | (with_reducible refine' pt_some ?_) | (with_reducible refine' bt_cmp ?_ ?_ ?_) | (with_reducible refine' bt_not ?_) | (with_reducible refine' bt_bool ?_) | with_reducible exact at_and_nil | with_reducible exact at_or_nil | (with_reducible refine' at_and_cons ?_ ?_) | (with_reducible refine' at_or_cons ?_ ?_) | with_reducible exact xs_nil | (with_reducible refine' xs_cons ?_ ?_) | (with_reducible refine' st_assign ?_ ?_ ?_) | (with_reducible refine' st_aug ?_ ?_ ?_) | (with_reducible refine' st_if ?_ ?_ ?_) | (with_reducible refine' st_append ?_ ?_ ?_ ?_ ?_ ?_) | (with_reducible refine' st_augidx ?_ ?_ ?_ ?_) | (with_reducible refine' st_ret ?_) | with_reducible exact st_ret0 | with_reducible exact st_cont | with_reducible exact st_pass | (with_reducible refine' st_while ?_ ?_) | (with_reducible refine' st_for ?_ (as_name ?_) ?_ ?_ ?_) | (with_reducible refine' ev_len (by assumption) ?_ ?_ ?_ ?_ ?_ ?_ ?_ ?_) | (with_reducible refine' ev_chr (by assumption) ?_ ?_ ?_ ?_ ?_ ?_ ?_ ?_) | (with_reducible refine' ev_range (by assumption) ?_ ?_ ?_ ?_ ?_ ?_ ?_ ?_) | (with_reducible refine' ev_abs (by assumption) ?_ ?_ ?_ ?_ ?_ ?_ ?_ ?_) | (with_reducible refine' ev_count _ ?_ ?_ ?_ ?_ ?_) | (with_reducible refine' ev_split _ ?_ ?_ ?_ ?_ ?_) | (with_reducible refine' ev_index _ ?_ ?_ ?_ ?_) | (with_reducible refine' ev_attr (C := 111) (by assumption) ?_ ?_ ?_ ?_ ?_ ?_) | (with_reducible refine' st_forT ?_ (as_tuple2 (as_name ?_) (as_name ?_) ?_ ?_) ?_ ?_ ?_) | (refine' st_swap2 (x := "text") (y := "last") ?_ rfl rfl ?_ ?_) | (with_reducible refine' st_assignT ?_ (as_tuple2 (as_name ?_) (as_name ?_) ?_ ?_) ?_ ?_) | (with_reducible refine' st_assignT ?_ (as_tuple3 (as_name ?_) (as_name ?_) (as_name ?_) ?_ ?_) ?_ ?_) | (with_reducible refine' ev_partition _ ?_ ?_ ?_ ?_ ?_) | (with_reducible refine' st_extend ?_ ?_ ?_ ?_ ?_ ?_) | (rintro _ _ _ ⟨_, _, rfl, _⟩; exact ⟨_, rfl⟩) | with_reducible exact ts_nil | (with_reducible refine' ts_one ?_) | ((with_reducible show nsIn _ _ _ = _); k_is) | ((with_reducible show plainGet _ _ _ = _); k_is) | ((with_reducible show hasDictIn _ _ = _); k_is) | ((with_reducible show findIn _ _ _ = _); k_is) | ((with_reducible show noGet _ _ = _); k_is) | ((with_reducible show Stores _ _); first | exact Or.inl rfl | exact Or.inr ⟨rfl, rfl⟩) | ((with_reducible show (_ == _) = false); decide) | ((with_reducible show behindInMarks _ _ = _); with_unfolding_all rfl) | ((with_reducible show _ ≤ _); decide) | ((with_reducible show _ = _); rfl) | ((with_reducible show ∀ _, _ = _); intro _; rfl) | ((with_reducible show ∀ _ _, _ = _); intro _ _; rfl) | ((with_reducible show ∀ _ _ _, _ = _); intro _ _ _; rfl) | (with_reducible refine' bt_val ?_ ?_))
                  case ee =>
                    with_reducible refine' ev_binop ?ex ?ey
                    case ex =>
                      refine' ev_comp (caps := ["part"]) ?hiB ?hclosB ?cpB ?hcellB ?hnamesB ?haB ?htB ?heB ?htgB ?hsB
                      case hclosB => rfl
                      case cpB => exact ⟨fun p hp => by (simp only [List.mem_singleton] at hp; subst hp; first | exact List.mem_cons_self | exact List.mem_cons_of_mem _ List.mem_cons_self | exact List.mem_cons_of_mem _ (List.mem_cons_of_mem _ List.mem_cons_self) | exact List.mem_cons_of_mem _ (List.mem_cons_of_mem _ (List.mem_cons_of_mem _ List.mem_cons_self))), by first | decide | simp, rfl, fun C y hy => by (simp only [List.mem_singleton] at hy; subst hy; exact ⟨by first | exact Or.inl rfl | exact Or.inr rfl, rfl, by intro h; cases h⟩)⟩
                      case hcellB => decide
                      case hnamesB => decide
                      case htgB => intro _ _; rfl
                      case hsB => intro _; rfl
                      case haB => exact fun C => ac_name rfl
                      case hiB => repeat' (first | with_reducible exact ev_int _ _ _ | with_reducible exact ev_str _ _ _ | with_reducible exact ev_none _ _ | with_reducible exact ev_bool _ _ _ | (with_reducible refine' ev_name _ _ ?_ ?_) | (with_reducible refine' ev_binop ?_ ?_) | (with_reducible refine' ev_neg ?_) | (with_reducible refine' ev_cmp ?_ ?_ ?_) | (with_reducible refine' ev_ifexp ?_ ?_ ?_) | (with_reducible refine' ev_list ?_) | (with_reducible refine' ev_tuple ?_) | with_reducible exact es_nil | (with_reducible refine' es_cons ?_ ?_ ?_) | (with_reducible refine' ev_cut ?_ ?_ ?_) | (with_reducible refine' ev_idx ?_ ?_ ?_) | with_reducible exact pt_none | (with_reducible refine' pt_some ?_) | (with_reducible refine' bt_cmp ?_ ?_ ?_) | (with_reducible refine' bt_not ?_) | (with_reducible refine' bt_bool ?_) | with_reducible exact at_and_nil | with_reducible exact at_or_nil | (with_reducible refine' at_and_cons ?_ ?_) | (with_reducible refine' at_or_cons ?_ ?_) | with_reducible exact xs_nil | (with_reducible refine' xs_cons ?_ ?_) | (with_reducible refine' st_assign ?_ ?_ ?_) | (with_reducible refine' st_aug ?_ ?_ ?_) | (with_reducible refine' st_if ?_ ?_ ?_) | (with_reducible refine' st_append ?_ ?_ ?_ ?_ ?_ ?_) | (with_reducible refine' st_augidx ?_ ?_ ?_ ?_) | (with_reducible refine' st_ret ?_) | with_reducible exact st_ret0 | with_reducible exact st_cont | with_reducible exact st_pass | (with_reducible refine' st_while ?_ ?_) | (with_reducible refine' st_for ?_ (as_name ?_) ?_ ?_ ?_) | (with_reducible refine' ev_len (by assumption) ?_ ?_ ?_ ?_ ?_ ?_ ?_ ?_) | (with_reducible refine' ev_chr (by assumption) ?_ ?_ ?_ ?_ ?_ ?_ ?_ ?_) | (with_reducible refine' ev_range (by assumption) ?_ ?_ ?_ ?_ ?_ ?_ ?_ ?_) | (with_reducible refine' ev_abs (by assumption) ?_ ?_ ?_ ?_ ?_ ?_ ?_ ?_) | (with_reducible refine' ev_count _ ?_ ?_ ?_ ?_ ?_) | (with_reducible refine' ev_split _ ?_ ?_ ?_ ?_ ?_) | (with_reducible refine' ev_index _ ?_ ?_ ?_ ?_) | (with_reducible refine' ev_attr (C := 111) (by assumption) ?_ ?_ ?_ ?_ ?_ ?_) | (with_reducible refine' st_forT ?_ (as_tuple2 (as_name ?_) (as_name ?_) ?_ ?_) ?_ ?_ ?_) | (refine' st_swap2 (x := "text") (y := "last") ?_ rfl rfl ?_ ?_) | (with_reducible refine' st_assignT ?_ (as_tuple2 (as_name ?_) (as_name ?_) ?_ ?_) ?_ ?_) | (with_reducible refine' st_assignT ?_ (as_tuple3 (as_name ?_) (as_name ?_) (as_name ?_) ?_ ?_) ?_ ?_) | (with_reducible refine' ev_partition _ ?_ ?_ ?_ ?_ ?_) | (with_reducible refine' st_extend ?_ ?_ ?_ ?_ ?_ ?_) | (rintro _ _ _ ⟨_, _, rfl, _⟩; exact ⟨_, rfl⟩) | with_reducible exact ts_nil | (with_reducible refine' ts_one ?_) | ((with_reducible show nsIn _ _ _ = _); k_is) | ((with_reducible show plainGet _ _ _ = _); k_is) | ((with_reducible show hasDictIn _ _ = _); k_is) | ((with_reducible show findIn _ _ _ = _); k_is) | ((with_reducible show noGet _ _ = _); k_is) | ((with_reducible show Stores _ _); first | exact Or.inl rfl | exact Or.inr ⟨rfl, rfl⟩) | ((with_reducible show (_ == _) = false); decide) | ((with_reducible show behindInMarks _ _ = _); with_unfolding_all rfl) | ((with_reducible show _ ≤ _); decide) | ((with_reducible show _ = _); rfl) | ((with_reducible show ∀ _, _ = _); intro _; rfl) | ((with_reducible show ∀ _ _, _ = _); intro _ _; rfl) | ((with_reducible show ∀ _ _ _, _ = _); intro _ _ _; rfl) | (with_reducible refine' bt_val ?_ ?_))
                      case htB => intro C; repeat' (first | with_reducible exact ev_int _ _ _ | with_reducible exact ev_str _ _ _ | with_reducible exact ev_none _ _ | with_reducible exact ev_bool _ _ _ | (with_reducible refine' ev_name _ _ ?_ ?_) | (with_reducible refine' ev_binop ?_ ?_) | (with_reducible refine' ev_neg ?_) | (with_reducible refine' ev_cmp ?_ ?_ ?_) | (with_reducible refine' ev_ifexp ?_ ?_ ?_) | (with_reducible refine' ev_list ?_) | (with_reducible refine' ev_tuple ?_) | with_reducible exact es_nil | (with_reducible refine' es_cons ?_ ?_ ?_) | (with_reducible refine' ev_cut ?_ ?_ ?_) | (with_reducible refine' ev_idx ?_ ?_ ?_) | with_reducible exact pt_none | (with_reducible refine' pt_some ?_) | (with_reducible refine' bt_cmp ?_ ?_ ?_) | (with_reducible refine' bt_not ?_) | (with_reducible refine' bt_bool ?_) | with_reducible exact at_and_nil | with_reducible exact at_or_nil | (with_reducible refine' at_and_cons ?_ ?_) | (with_reducible refine' at_or_cons ?_ ?_) | with_reducible exact xs_nil | (with_reducible refine' xs_cons ?_ ?_) | (with_reducible refine' st_assign ?_ ?_ ?_) | (with_reducible refine' st_aug ?_ ?_ ?_) | (with_reducible refine' st_if ?_ ?_ ?_) | (with_reducible refine' st_append ?_ ?_ ?_ ?_ ?_ ?_) | (with_reducible refine' st_augidx ?_ ?_ ?_ ?_) | (with_reducible refine' st_ret ?_) | with_reducible exact st_ret0 | with_reducible exact st_cont | with_reducible exact st_pass | (with_reducible refine' st_while ?_ ?_) | (with_reducible refine' st_for ?_ (as_name ?_) ?_ ?_ ?_) | (with_reducible refine' ev_len (by assumption) ?_ ?_ ?_ ?_ ?_ ?_ ?_ ?_) | (with_reducible refine' ev_chr (by assumption) ?_ ?_ ?_ ?_ ?_ ?_ ?_ ?_) | (with_reducible refine' ev_range (by assumption) ?_ ?_ ?_ ?_ ?_ ?_ ?_ ?_) | (with_reducible refine' ev_abs (by assumption) ?_ ?_ ?_ ?_ ?_ ?_ ?_ ?_) | (with_reducible refine' ev_count _ ?_ ?_ ?_ ?_ ?_) | (with_reducible refine' ev_split _ ?_ ?_ ?_ ?_ ?_) | (with_reducible refine' ev_index _ ?_ ?_ ?_ ?_) | (with_reducible refine' ev_attr (C := 111) (by assumption) ?_ ?_ ?_ ?_ ?_ ?_) | (with_reducible refine' st_forT ?_ (as_tuple2 (as_name ?_) (as_name ?_) ?_ ?_) ?_ ?_ ?_) | (refine' st_swap2 (x := "text") (y := "last") ?_ rfl rfl ?_ ?_) | (with_reducible refine' st_assignT ?_ (as_tuple2 (as_name ?_) (as_name ?_) ?_ ?_) ?_ ?_) | (with_reducible refine' st_assignT ?_ (as_tuple3 (as_name ?_) (as_name ?_) (as_name ?_) ?_ ?_) ?_ ?_) | (with_reducible refine' ev_partition _ ?_ ?_ ?_ ?_ ?_) | (with_reducible refine' st_extend ?_ ?_ ?_ ?_ ?_ ?_) | (rintro _ _ _ ⟨_, _, rfl, _⟩; exact ⟨_, rfl⟩) | with_reducible exact ts_nil | (with_reducible refine' ts_one ?_) | ((with_reducible show nsIn _ _ _ = _); k_is) | ((with_reducible show plainGet _ _ _ = _); k_is) | ((with_reducible show hasDictIn _ _ = _); k_is) | ((with_reducible show findIn _ _ _ = _); k_is) | ((with_reducible show noGet _ _ = _); k_is) | ((with_reducible show Stores _ _); first | exact Or.inl rfl | exact Or.inr ⟨rfl, rfl⟩) | ((with_reducible show (_ == _) = false); decide) | ((with_reducible show behindInMarks _ _ = _); with_unfolding_all rfl) | ((with_reducible show _ ≤ _); decide) | ((with_reducible show _ = _); rfl) | ((with_reducible show ∀ _, _ = _); intro _; rfl) | ((with_reducible show ∀ _ _, _ = _); intro _ _; rfl) | ((with_reducible show ∀ _ _ _, _ = _); intro _ _ _; rfl) | (with_reducible refine' bt_val ?_ ?_))
                      case heB => intro C; repeat' (first | with_reducible exact ev_int _ _ _ | with_reducible exact ev_str _ _ _ | with_reducible exact ev_none _ _ | with_reducible exact ev_bool _ _ _ | (with_reducible refine' ev_name _ _ ?_ ?_) | (with_reducible refine' ev_binop ?_ ?_) | (with_reducible refine' ev_neg ?_) | (with_reducible refine' ev_cmp ?_ ?_ ?_) | (with_reducible refine' ev_ifexp ?_ ?_ ?_) | (with_reducible refine' ev_list ?_) | (with_reducible refine' ev_tuple ?_) | with_reducible exact es_nil | (with_reducible refine' es_cons ?_ ?_ ?_) | (with_reducible refine' ev_cut ?_ ?_ ?_) | (with_reducible refine' ev_idx ?_ ?_ ?_) | with_reducible exact pt_none | (with_reducible refine' pt_some ?_) | (with_reducible refine' bt_cmp ?_ ?_ ?_) | (with_reducible refine' bt_not ?_) | (with_reducible refine' bt_bool ?_) | with_reducible exact at_and_nil | with_reducible exact at_or_nil | (with_reducible refine' at_and_cons ?_ ?_) | (with_reducible refine' at_or_cons ?_ ?_) | with_reducible exact xs_nil | (with_reducible refine' xs_cons ?_ ?_) | (with_reducible refine' st_assign ?_ ?_ ?_) | (with_reducible refine' st_aug ?_ ?_ ?_) | (with_reducible refine' st_if ?_ ?_ ?_) | (with_reducible refine' st_append ?_ ?_ ?_ ?_ ?_ ?_) | (with_reducible refine' st_augidx ?_ ?_ ?_ ?_) | (with_reducible refine' st_ret ?_) | with_reducible exact st_ret0 | with_reducible exact st_cont | with_reducible exact st_pass | (with_reducible refine' st_while ?_ ?_) | (with_reducible refine' st_for ?_ (as_name ?_) ?_ ?_ ?_) | (with_reducible refine' ev_len (by assumption) ?_ ?_ ?_ ?_ ?_ ?_ ?_ ?_) | (with_reducible refine' ev_chr (by assumption) ?_ ?_ ?_ ?_ ?_ ?_ ?_ ?_) | (with_reducible refine' ev_range (by assumption) ?_ ?_ ?_ ?_ ?_ ?_ ?_ ?_) | (with_reducible refine' ev_abs (by assumption) ?_ ?_ ?_ ?_ ?_ ?_ ?_ ?_) | (with_reducible refine' ev_count _ ?_ ?_ ?_ ?_ ?_) | (with_reducible refine' ev_split _ ?_ ?_ ?_ ?_ ?_) | (with_reducible refine' ev_index _ ?_ ?_ ?_ ?_) | (with_reducible refine' ev_attr (C := 111) (by assumption) ?_ ?_ ?_ ?_ ?_ ?_) | (with_reducible refine' st_forT ?_ (as_tuple2 (as_name ?_) (as_name ?_) ?_ ?_) ?_ ?_ ?_) | (refine' st_swap2 (x := "text") (y := "last") ?_ rfl rfl ?_ ?_) | (with_reducible refine' st_assignT ?_ (as_tuple2 (as_name ?_) (as_name ?_) ?_ ?_) ?_ ?_) | (with_reducible refine' st_assignT ?_ (as_tuple3 (as_name ?_) (as_name ?_) (as_name ?_) ?_ ?_) ?_ ?_) | (with_reducible refine' ev_partition _ ?_ ?_ ?_ ?_ ?_) | (with_reducible refine' st_extend ?_ ?_ ?_ ?_ ?_ ?_) | (rintro _ _ _ ⟨_, _, rfl, _⟩; exact ⟨_, rfl⟩) | with_reducible exact ts_nil | (with_reducible refine' ts_one ?_) | ((with_reducible show nsIn _ _ _ = _); k_is) | ((with_reducible show plainGet _ _ _ = _); k_is) | ((with_reducible show hasDictIn _ _ = _); k_is) | ((with_reducible show findIn _ _ _ = _); k_is) | ((with_reducible show noGet _ _ = _); k_is) | ((with_reducible show Stores _ _); first | exact Or.inl rfl | exact Or.inr ⟨rfl, rfl⟩) | ((with_reducible show (_ == _) = false); decide) | ((with_reducible show behindInMarks _ _ = _); with_unfolding_all rfl) | ((with_reducible show _ ≤ _); decide) | ((with_reducible show _ = _); rfl) | ((with_reducible show ∀ _, _ = _); intro _; rfl) | ((with_reducible show ∀ _ _, _ = _); intro _ _; rfl) | ((with_reducible show ∀ _ _ _, _ = _); intro _ _ _; rfl) | (with_reducible refine' bt_val ?_ ?_))
                    case ey =>
                      refine' ev_comp (caps := []) ?hiC ?hclosC ?cpC ?hcellC ?hnamesC ?haC ?htC ?heC ?htgC ?hsC
                      case hclosC => rfl
                      case cpC => exact ⟨fun p hp => (nomatch hp), List.nodup_nil, rfl, fun C y hy => (nomatch hy)⟩
                      case hcellC => decide
                      case hnamesC => decide
                      case htgC => intro _ _; rfl
                      case hsC => intro _; rfl
                      case haC => exact fun C => ac_name rfl
                      case hiC => repeat' (first | with_reducible exact ev_int _ _ _ | with_reducible exact ev_str _ _ _ | with_reducible exact ev_none _ _ | with_reducible exact ev_bool _ _ _ | (with_reducible refine' ev_name _ _ ?_ ?_) | (with_reducible refine' ev_binop ?_ ?_) | (with_reducible refine' ev_neg ?_) | (with_reducible refine' ev_cmp ?_ ?_ ?_) | (with_reducible refine' ev_ifexp ?_ ?_ ?_) | (with_reducible refine' ev_list ?_) | (with_reducible refine' ev_tuple ?_) | with_reducible exact es_nil | (with_reducible refine' es_cons ?_ ?_ ?_) | (with_reducible refine' ev_cut ?_ ?_ ?_) | (with_reducible refine' ev_idx ?_ ?_ ?_) | with_reducible exact pt_none | (with_reducible refine' pt_some ?_) | (with_reducible refine' bt_cmp ?_ ?_ ?_) | (with_reducible refine' bt_not ?_) | (with_reducible refine' bt_bool ?_) | with_reducible exact at_and_nil | with_reducible exact at_or_nil | (with_reducible refine' at_and_cons ?_ ?_) | (with_reducible refine' at_or_cons ?_ ?_) | with_reducible exact xs_nil | (with_reducible refine' xs_cons ?_ ?_) | (with_reducible refine' st_assign ?_ ?_ ?_) | (with_reducible refine' st_aug ?_ ?_ ?_) | (with_reducible refine' st_if ?_ ?_ ?_) | (with_reducible refine' st_append ?_ ?_ ?_ ?_ ?_ ?_) | (with_reducible refine' st_augidx ?_ ?_ ?_ ?_) | (with_reducible refine' st_ret ?_) | with_reducible exact st_ret0 | with_reducible exact st_cont | with_reducible exact st_pass | (with_reducible refine' st_while ?_ ?_) | (with_reducible refine' st_for ?_ (as_name ?_) ?_ ?_ ?_) | (with_reducible refine' ev_len (by assumption) ?_ ?_ ?_ ?_ ?_ ?_ ?_ ?_) | (with_reducible refine' ev_chr (by assumption) ?_ ?_ ?_ ?_ ?_ ?_ ?_ ?_) | (with_reducible refine' ev_range (by assumption) ?_ ?_ ?_ ?_ ?_ ?_ ?_ ?_) | (with_reducible refine' ev_abs (by assumption) ?_ ?_ ?_ ?_ ?_ ?_ ?_ ?_) | (with_reducible refine' ev_count _ ?_ ?_ ?_ ?_ ?_) | (with_reducible refine' ev_split _ ?_ ?_ ?_ ?_ ?_) | (with_reducible refine' ev_index _ ?_ ?_ ?_ ?_) | (with_reducible refine' ev_attr (C := 111) (by assumption) ?_ ?_ ?_ ?_ ?_ ?_) | (with_reducible refine' st_forT ?_ (as_tuple2 (as_name ?_) (as_name ?_) ?_ ?_) ?_ ?_ ?_) | (refine' st_swap2 (x := "text") (y := "last") ?_ rfl rfl ?_ ?_) | (with_reducible refine' st_assignT ?_ (as_tuple2 (as_name ?_) (as_name ?_) ?_ ?_) ?_ ?_) | (with_reducible refine' st_assignT ?_ (as_tuple3 (as_name ?_) (as_name ?_) (as_name ?_) ?_ ?_) ?_ ?_) | (with_reducible refine' ev_partition _ ?_ ?_ ?_ ?_ ?_) | (with_reducible refine' st_extend ?_ ?_ ?_ ?_ ?_ ?_) | (rintro _ _ _ ⟨_, _, rfl, _⟩; exact ⟨_, rfl⟩) | with_reducible exact ts_nil | (with_reducible refine' ts_one ?_) | ((with_reducible show nsIn _ _ _ = _); k_is) | ((with_reducible show plainGet _ _ _ = _); k_is) | ((with_reducible show hasDictIn _ _ = _); k_is) | ((with_reducible show findIn _ _ _ = _); k_is) | ((with_reducible show noGet _ _ = _); k_is) | ((with_reducible show Stores _ _); first | exact Or.inl rfl | exact Or.inr ⟨rfl, rfl⟩) | ((with_reducible show (_ == _) = false); decide) | ((with_reducible show behindInMarks _ _ = _); with_unfolding_all rfl) | ((with_reducible show _ ≤ _); decide) | ((with_reducible show _ = _); rfl) | ((with_reducible show ∀ _, _ = _); intro _; rfl) | ((with_reducible show ∀ _ _, _ = _); intro _ _; rfl) | ((with_reducible show ∀ _ _ _, _ = _); intro _ _ _; rfl) | (with_reducible refine' bt_val ?_ ?_))
                      case htC => intro C; repeat' (first | with_reducible exact ev_int _ _ _ | with_reducible exact ev_str _ _ _ | with_reducible exact ev_none _ _ | with_reducible exact ev_bool _ _ _ | (with_reducible refine' ev_name _ _ ?_ ?_) | (with_reducible refine' ev_binop ?_ ?_) | (with_reducible refine' ev_neg ?_) | (with_reducible refine' ev_cmp ?_ ?_ ?_) | (with_reducible refine' ev_ifexp ?_ ?_ ?_) | (with_reducible refine' ev_list ?_) | (with_reducible refine' ev_tuple ?_) | with_reducible exact es_nil | (with_reducible refine' es_cons ?_ ?_ ?_) | (with_reducible refine' ev_cut ?_ ?_ ?_) | (with_reducible refine' ev_idx ?_ ?_ ?_) | with_reducible exact pt_none | (with_reducible refine' pt_some ?_) | (with_reducible refine' bt_cmp ?_ ?_ ?_) | (with_reducible refine' bt_not ?_) | (with_reducible refine' bt_bool ?_) | with_reducible exact at_and_nil | with_reducible exact at_or_nil | (with_reducible refine' at_and_cons ?_ ?_) | (with_reducible refine' at_or_cons ?_ ?_) | with_reducible exact xs_nil | (with_reducible refine' xs_cons ?_ ?_) | (with_reducible refine' st_assign ?_ ?_ ?_) | (with_reducible refine' st_aug ?_ ?_ ?_) | (with_reducible refine' st_if ?_ ?_ ?_) | (with_reducible refine' st_append ?_ ?_ ?_ ?_ ?_ ?_) | (with_reducible refine' st_augidx ?_ ?_ ?_ ?_) | (with_reducible refine' st_ret ?_) | with_reducible exact st_ret0 | with_reducible exact st_cont | with_reducible exact st_pass | (with_reducible refine' st_while ?_ ?_) | (with_reducible refine' st_for ?_ (as_name ?_) ?_ ?_ ?_) | (with_reducible refine' ev_len (by assumption) ?_ ?_ ?_ ?_ ?_ ?_ ?_ ?_) | (with_reducible refine' ev_chr (by assumption) ?_ ?_ ?_ ?_ ?_ ?_ ?_ ?_) | (with_reducible refine' ev_range (by assumption) ?_ ?_ ?_ ?_ ?_ ?_ ?_ ?_) | (with_reducible refine' ev_abs (by assumption) ?_ ?_ ?_ ?_ ?_ ?_ ?_ ?_) | (with_reducible refine' ev_count _ ?_ ?_ ?_ ?_ ?_) | (with_reducible refine' ev_split _ ?_ ?_ ?_ ?_ ?_) | (with_reducible refine' ev_index _ ?_ ?_ ?_ ?_) | (with_reducible refine' ev_attr (C := 111) (by assumption) ?_ ?_ ?_ ?_ ?_ ?_) | (with_reducible refine' st_forT ?_ (as_tuple2 (as_name ?_) (as_name ?_) ?_ ?_) ?_ ?_ ?_) | (refine' st_swap2 (x := "text") (y := "last") ?_ rfl rfl ?_ ?_) | (with_reducible refine' st_assignT ?_ (as_tuple2 (as_name ?_) (as_name ?_) ?_ ?_) ?_ ?_) | (with_reducible refine' st_assignT ?_ (as_tuple3 (as_name ?_) (as_name ?_) (as_name ?_) ?_ ?_) ?_ ?_) | (with_reducible refine' ev_partition _ ?_ ?_ ?_ ?_ ?_) | (with_reducible refine' st_extend ?_ ?_ ?_ ?_ ?_ ?_) | (rintro _ _ _ ⟨_, _, rfl, _⟩; exact ⟨_, rfl⟩) | with_reducible exact ts_nil | (with_reducible refine' ts_one ?_) | ((with_reducible show nsIn _ _ _ = _); k_is) | ((with_reducible show plainGet _ _ _ = _); k_is) | ((with_reducible show hasDictIn _ _ = _); k_is) | ((with_reducible show findIn _ _ _ = _); k_is) | ((with_reducible show noGet _ _ = _); k_is) | ((with_reducible show Stores _ _); first | exact Or.inl rfl | exact Or.inr ⟨rfl, rfl⟩) | ((with_reducible show (_ == _) = false); decide) | ((with_reducible show behindInMarks _ _ = _); with_unfolding_all rfl) | ((with_reducible show _ ≤ _); decide) | ((with_reducible show _ = _); rfl) | ((with_reducible show ∀ _, _ = _); intro _; rfl) | ((with_reducible show ∀ _ _, _ = _); intro _ _; rfl) | ((with_reducible show ∀ _ _ _, _ = _); intro _ _ _; rfl) | (with_reducible refine' bt_val ?_ ?_))
                      case heC => intro C; repeat' (first | with_reducible exact ev_int _ _ _ | with_reducible exact ev_str _ _ _ | with_reducible exact ev_none _ _ | with_reducible exact ev_bool _ _ _ | (with_reducible refine' ev_name _ _ ?_ ?_) | (with_reducible refine' ev_binop ?_ ?_) | (with_reducible refine' ev_neg ?_) | (with_reducible refine' ev_cmp ?_ ?_ ?_) | (with_reducible refine' ev_ifexp ?_ ?_ ?_) | (with_reducible refine' ev_list ?_) | (with_reducible refine' ev_tuple ?_) | with_reducible exact es_nil | (with_reducible refine' es_cons ?_ ?_ ?_) | (with_reducible refine' ev_cut ?_ ?_ ?_) | (with_reducible refine' ev_idx ?_ ?_ ?_) | with_reducible exact pt_none | (with_reducible refine' pt_some ?_) | (with_reducible refine' bt_cmp ?_ ?_ ?_) | (with_reducible refine' bt_not ?_) | (with_reducible refine' bt_bool ?_) | with_reducible exact at_and_nil | with_reducible exact at_or_nil | (with_reducible refine' at_and_cons ?_ ?_) | (with_reducible refine' at_or_cons ?_ ?_) | with_reducible exact xs_nil | (with_reducible refine' xs_cons ?_ ?_) | (with_reducible refine' st_assign ?_ ?_ ?_) | (with_reducible refine' st_aug ?_ ?_ ?_) | (with_reducible refine' st_if ?_ ?_ ?_) | (with_reducible refine' st_append ?_ ?_ ?_ ?_ ?_ ?_) | (with_reducible refine' st_augidx ?_ ?_ ?_ ?_) | (with_reducible refine' st_ret ?_) | with_reducible exact st_ret0 | with_reducible exact st_cont | with_reducible exact st_pass | (with_reducible refine' st_while ?_ ?_) | (with_reducible refine' st_for ?_ (as_name ?_) ?_ ?_ ?_) | (with_reducible refine' ev_len (by assumption) ?_ ?_ ?_ ?_ ?_ ?_ ?_ ?_) | (with_reducible refine' ev_chr (by assumption) ?_ ?_ ?_ ?_ ?_ ?_ ?_ ?_) | (with_reducible refine' ev_range (by assumption) ?_ ?_ ?_ ?_ ?_ ?_ ?_ ?_) | (with_reducible refine' ev_abs (by assumption) ?_ ?_ ?_ ?_ ?_ ?_ ?_ ?_) | (with_reducible refine' ev_count _ ?_ ?_ ?_ ?_ ?_) | (with_reducible refine' ev_split _ ?_ ?_ ?_ ?_ ?_) | (with_reducible refine' ev_index _ ?_ ?_ ?_ ?_) | (with_reducible refine' ev_attr (C := 111) (by assumption) ?_ ?_ ?_ ?_ ?_ ?_) | (with_reducible refine' st_forT ?_ (as_tuple2 (as_name ?_) (as_name ?_) ?_ ?_) ?_ ?_ ?_) | (refine' st_swap2 (x := "text") (y := "last") ?_ rfl rfl ?_ ?_) | (with_reducible refine' st_assignT ?_ (as_tuple2 (as_name ?_) (as_name ?_) ?_ ?_) ?_ ?_) | (with_reducible refine' st_assignT ?_ (as_tuple3 (as_name ?_) (as_name ?_) (as_name ?_) ?_ ?_) ?_ ?_) | (with_reducible refine' ev_partition _ ?_ ?_ ?_ ?_ ?_) | (with_reducible refine' st_extend ?_ ?_ ?_ ?_ ?_ ?_) | (rintro _ _ _ ⟨_, _, rfl, _⟩; exact ⟨_, rfl⟩) | with_reducible exact ts_nil | (with_reducible refine' ts_one ?_) | ((with_reducible show nsIn _ _ _ = _); k_is) | ((with_reducible show plainGet _ _ _ = _); k_is) | ((with_reducible show hasDictIn _ _ = _); k_is) | ((with_reducible show findIn _ _ _ = _); k_is) | ((with_reducible show noGet _ _ = _); k_is) | ((with_reducible show Stores _ _); first | exact Or.inl rfl | exact Or.inr ⟨rfl, rfl⟩) | ((with_reducible show (_ == _) = false); decide) | ((with_reducible show behindInMarks _ _ = _); with_unfolding_all rfl) | ((with_reducible show _ ≤ _); decide) | ((with_reducible show _ = _); rfl) | ((with_reducible show ∀ _, _ = _); intro _; rfl) | ((with_reducible show ∀ _ _, _ = _); intro _ _; rfl) | ((with_reducible show ∀ _ _ _, _ = _); intro _ _ _; rfl) | (with_reducible refine' bt_val ?_ ?_))
                case tb2 =>
                  repeat' (first | with_reducible exact ev_int _ _ _ | with_reducible exact ev_str _ _ _ | with_reducible exact ev_none _ _ | with_reducible exact ev_bool _ _ _ | (with_reducible refine' ev_name _ _ ?_ ?_) | (with_reducible refine' ev_binop ?_ ?_) | (with_reducible refine' ev_neg ?_) | (with_reducible refine' ev_cmp ?_ ?_ ?_) | (with_reducible refine' ev_ifexp ?_ ?_ ?_) | (with_reducible refine' ev_list ?_) | (with_reducible refine' ev_tuple ?_) | with_reducible exact es_nil | (with_reducible refine' es_cons ?_ ?_ ?_) | (with_reducible refine' ev_cut ?_ ?_ ?_) | (with_reducible refine' ev_idx ?_ ?_ ?_) | with_reducible exact pt_none | (with_reducible refine' pt_some ?_) | (with_reducible refine' bt_cmp ?_ ?_ ?_) | (with_reducible refine' bt_not ?_) | (with_reducible refine' bt_bool ?_) | with_reducible exact at_and_nil | with_reducible exact at_or_nil | (with_reducible refine' at_and_cons ?_ ?_) | (with_reducible refine' at_or_cons ?_ ?_) | with_reducible exact xs_nil | (with_reducible refine' xs_cons ?_ ?_) | (with_reducible refine' st_assign ?_ ?_ ?_) | (with_reducible refine' st_aug ?_ ?_ ?_) | (with_reducible refine' st_if ?_ ?_ ?_) | (with_reducible refine' st_append ?_ ?_ ?_ ?_ ?_ ?_) | (with_reducible refine' st_augidx ?_ ?_ ?_ ?_) | (with_reducible refine' st_ret ?_) | with_reducible exact st_ret0 | with_reducible exact st_cont | with_reducible exact st_pass | (with_reducible refine' st_while ?_ ?_) | (with_reducible refine' st_for ?_ (as_name ?_) ?_ ?_ ?_) | (with_reducible refine' ev_len (by assumption) ?_ ?_ ?_ ?_ ?_ ?_ ?_ ?_) | (with_reducible refine' ev_chr (by assumption) ?_ ?_ ?_ ?_ ?_ ?_ ?_ ?_) | (with_reducible refine' ev_range (by assumption) ?_ ?_ ?_ ?_ ?_ ?_ ?_ ?_) | (with_reducible refine' ev_abs (by assumption) ?_ ?_ ?_ ?_ ?_ ?_ ?_ ?_) | (with_reducible refine' ev_count _ ?_ ?_ ?_ ?_ ?_) | (with_reducible refine' ev_split _ ?_ ?_ ?_ ?_ ?_) | (with_reducible refine' ev_index _ ?_ ?_ ?_ ?_) | (with_reducible refine' ev_attr (C := 111) (by assumption) ?_ ?_ ?_ ?_ ?_ ?_) | (with_reducible refine' st_forT ?_ (as_tuple2 (as_name ?_) (as_name ?_) ?_ ?_) ?_ ?_ ?_) | (refine' st_swap2 (x := "text") (y := "last") ?_ rfl rfl ?_ ?_) | (with_reducible refine' st_assignT ?_ (as_tuple2 (as_name ?_) (as_name ?_) ?_ ?_) ?_ ?_) | (with_reducible refine' st_assignT ?_ (as_tuple3 (as_name ?_) (as_name ?_) (as_name ?_) ?_ ?_) ?_ ?_) | (with_reducible refine' ev_partition _ ?_ ?_ ?_ ?_ ?_) | (with_reducible refine' st_extend ?_ ?_ ?_ ?_ ?_ ?_) | (rintro _ _ _ ⟨_, _, rfl, _⟩; exact ⟨_, rfl⟩) | with_reducible exact ts_nil | (with_reducible refine' ts_one ?_) | ((with_reducible show nsIn _ _ _ = _); k_is) | ((with_reducible show plainGet _ _ _ = _); k_is) | ((with_reducible show hasDictIn _ _ = _); k_is) | ((with_reducible show findIn _ _ _ = _); k_is) | ((with_reducible show noGet _ _ = _); k_is) | ((with_reducible show Stores _ _); first | exact Or.inl rfl | exact Or.inr ⟨rfl, rfl⟩) | ((with_reducible show (_ == _) = false); decide) | ((with_reducible show behindInMarks _ _ = _); with_unfolding_all rfl) | ((with_reducible show _ ≤ _); decide) | ((with_reducible show _ = _); rfl) | ((with_reducible show ∀ _, _ = _); intro _; rfl) | ((with_reducible show ∀ _ _, _ = _); intro _ _; rfl) | ((with_reducible show ∀ _ _ _, _ = _); intro _ _ _; rfl) | (with_reducible refine' bt_val ?_ ?_))
        case ta2 =>
          repeat' (first | with_reducible exact ev_int _ _ _ | with_reducible exact ev_str _ _ _ | with_reducible exact ev_none _ _ | with_reducible exact ev_bool _ _ _ | (with_reducible refine' ev_name _ _ ?_ ?_) | (with_reducible refine' ev_binop ?_ ?_) | (with_reducible refine' ev_neg ?_) | (with_reducible refine' ev_cmp ?_ ?_ ?_) | (with_reducible refine' ev_ifexp ?_ ?_ ?_) | (with_reducible refine' ev_list ?_) | (with_reducible refine' ev_tuple ?_) | with_reducible exact es_nil | (with_reducible refine' es_cons ?_ ?_ ?_) | (with_reducible refine' ev_cut ?_ ?_ ?_) | (with_reducible refine' ev_idx ?_ ?_ ?_) | with_reducible exact pt_none | (with_reducible refine' pt_some ?_) | (with_reducible refine' bt_cmp ?_ ?_ ?_) | (with_reducible refine' bt_not ?_) | (with_reducible refine' bt_bool ?_) | with_reducible exact at_and_nil | with_reducible exact at_or_nil | (with_reducible refine' at_and_cons ?_ ?_) | (with_reducible refine' at_or_cons ?_ ?_) | with_reducible exact xs_nil | (with_reducible refine' xs_cons ?_ ?_) | (with_reducible refine' st_assign ?_ ?_ ?_) | (with_reducible refine' st_aug ?_ ?_ ?_) | (with_reducible refine' st_if ?_ ?_ ?_) | (with_reducible refine' st_append ?_ ?_ ?_ ?_ ?_ ?_) | (with_reducible refine' st_augidx ?_ ?_ ?_ ?_) | (with_reducible refine' st_ret ?_) | with_reducible exact st_ret0 | with_reducible exact st_cont | with_reducible exact st_pass | (with_reducible refine' st_while ?_ ?_) | (with_reducible refine' st_for ?_ (as_name ?_) ?_ ?_ ?_) | (with_reducible refine' ev_len (by assumption) ?_ ?_ ?_ ?_ ?_ ?_ ?_ ?_) | (with_reducible refine' ev_chr (by assumption) ?_ ?_ ?_ ?_ ?_ ?_ ?_ ?_) | (with_reducible refine' ev_range (by assumption) ?_ ?_ ?_ ?_ ?_ ?_ ?_ ?_) | (with_reducible refine' ev_abs (by assumption) ?_ ?_ ?_ ?_ ?_ ?_ ?_ ?_) | (with_reducible refine' ev_count _ ?_ ?_ ?_ ?_ ?_) | (with_reducible refine' ev_split _ ?_ ?_ ?_ ?_ ?_) | (with_reducible refine' ev_index _ ?_ ?_ ?_ ?_) | (with_reducible refine' ev_attr (C := 111) (by assumption) ?_ ?_ ?_ ?_ ?_ ?_) | (with_reducible refine' st_forT ?_ (as_tuple2 (as_name ?_) (as_name ?_) ?_ ?_) ?_ ?_ ?_) | (refine' st_swap2 (x := "text") (y := "last") ?_ rfl rfl ?_ ?_) | (with_reducible refine' st_assignT ?_ (as_tuple2 (as_name ?_) (as_name ?_) ?_ ?_) ?_ ?_) | (with_reducible refine' st_assignT ?_ (as_tuple3 (as_name ?_) (as_name ?_) (as_name ?_) ?_ ?_) ?_ ?_) | (with_reducible refine' ev_partition _ ?_ ?_ ?_ ?_ ?_) | (with_reducible refine' st_extend ?_ ?_ ?_ ?_ ?_ ?_) | (rintro _ _ _ ⟨_, _, rfl, _⟩; exact ⟨_, rfl⟩) | with_reducible exact ts_nil | (with_reducible refine' ts_one ?_) | ((with_reducible show nsIn _ _ _ = _); k_is) | ((with_reducible show plainGet _ _ _ = _); k_is) | ((with_reducible show hasDictIn _ _ = _); k_is) | ((with_reducible show findIn _ _ _ = _); k_is) | ((with_reducible show noGet _ _ = _); k_is) | ((with_reducible show Stores _ _); first | exact Or.inl rfl | exact Or.inr ⟨rfl, rfl⟩) | ((with_reducible show (_ == _) = false); decide) | ((with_reducible show behindInMarks _ _ = _); with_unfolding_all rfl) | ((with_reducible show _ ≤ _); decide) | ((with_reducible show _ = _); rfl) | ((with_reducible show ∀ _, _ = _); intro _; rfl) | ((with_reducible show ∀ _ _, _ = _); intro _ _; rfl) | ((with_reducible show ∀ _ _ _, _ = _); intro _ _ _; rfl) | (with_reducible refine' bt_val ?_ ?_))
  intro A H Q hA hc hl hq
  obtain ⟨p0, ps, e1, e2, e3⟩ := (read_ok A [] (.inl rfl) hA hc).1 rfl
  have hsl := spl_len 0 (flat A)
  rw [e1] at hsl
  have hp0 : p0.length ≤ 3000 := Nat.le_trans (hsl.2 p0 List.mem_cons_self) hl
  have hps : ∀ p ∈ ps, p.l.length ≤ 3000 := fun p hp => Nat.le_trans (hsl.2 _ (List.mem_cons_of_mem _ (List.mem_map_of_mem hp))) hl
  have hpl : ps.length ≤ 3001 := by have := hsl.1; simp at this; (first | lia | omega)
  have hcl : (cellsOf [] A).length ≤ 3000 := by
    rw [cellsOf_len]
    have := flat_len [] A hA; (first | lia | omega)
  unfold callW
  refine seq_to ⟨(argLoc ["row"] [.str (mkS (flat A))]).set "parts" (.lst ((p0 :: ps.map Pt3.l).map fun p => .str (mkS p))), H.ro⟩ (fun R hR => ?a1) ?a2
  case a1 =>
    refine get_W rfl ⟨_, rfl, ?_⟩
    rw [ofS0]
    refine split_W (by (first | lia | omega)) (listW_lst ?_)
    rw [e1]; exact hR
  case a2 =>
    refine seq_ex (fun σ => ∃ a, σ.loc "told" = some (.ref a) ∧ σ.H a = some ⟨true, (p0.map fun c => (c, [])).map cellP⟩ ∧ σ.loc "parts" = some (.lst ((p0 :: ps.map Pt3.l).map fun p => .str (mkS p)))) (fun R hR => ?b1) (fun σ hσ => ?b2)
    case b1 =>
      refine get_W rfl (idx_L (k := 0) (p := .str (mkS p0)) rfl (by simp; (first | lia | omega)) ⟨_, rfl, by simp [strSigns, mkS, sizeLine_eq]; (first | lia | omega), ?_⟩)
      refine compW_map (fun p => .tup [p, .str (mkS [])]) _ (fun p hp R1 hr => ?_) ?_
      · rw [ofSe]
        exact get_W rfl ⟨by rw [sizeLine_eq]; simp, hr⟩
      refine listW_ref fun a ha => hR _ ⟨a, rfl, (LH.set_self _ _ _).trans ?_, rfl⟩
      simp [strSigns, mkS, cellP, Function.comp_def]
    case b2 =>
      obtain ⟨a, n1, n2, n3⟩ := hσ
      refine seq_ex (fun σ => σ.loc "told" = some (.ref a) ∧ σ.H a = some ⟨true, (cellsOf [] A).map cellP⟩) (fun R hR => ?c1) (fun σ hσ => ?c2)
      case c2 => exact seq_ret _ (fun R hR => get_W hσ.1 hR) (.inr ⟨a, _, rfl, hσ.2, hq⟩)
      case c1 =>
        refine get_W n3 ⟨_, rfl, cut_L (by simp [sizeLine_eq]; (first | lia | omega)) (listW_lst ⟨_, trivial, rfl, ?_⟩)⟩
        rw [show cut (List.map (fun p => PV.str (mkS p)) (p0 :: List.map Pt3.l ps)) (some 1) none = ps.map fun p => PV.str (mkS p.l) from (cut_lo _ 1).trans (by simp)]
        refine forW_inv (fun rest σ => ∃ (acc : Cells) (todo : List Pt3), rest = todo.map (fun p => PV.str (mkS p.l)) ∧ (∀ p ∈ todo, 1 ∉ p.I ∧ p.l.length ≤ 3000) ∧ σ.loc "told" = some (.ref a) ∧ σ.H a = some ⟨true, acc.map cellP⟩ ∧ acc ++ (todo.map Pt3.cs).flatten = cellsOf [] A) ?step ?fin _ _ ?init
        case init => exact ⟨p0.map fun c => (c, []), ps, rfl, fun p hp => ⟨e2 p hp, hps p hp⟩, n1, n2, e3.symm⟩
        case fin =>
          rintro σ ⟨acc, todo, er, _, l1, l4, hacc⟩
          have ht : todo = [] := by cases todo with | nil => rfl | cons _ _ => cases er
          subst ht
          simp only [List.map_nil, List.flatten_nil, List.append_nil] at hacc
          subst hacc
          exact hR _ ⟨l1, l4⟩
        case step =>
          intro p rr σ K hI kn kc
          refine hide fun Gh kh => ?_
          obtain ⟨k, I, O, acc, rfl, hI, hL, hal, l1, l4, hfin⟩ : ∃ (k : Nat) (I O : List Nat) (acc : Cells), p = .str (mkS (k :: (I ++ 1 :: O))) ∧ 1 ∉ I ∧ I.length + O.length ≤ 3000 ∧ acc.length + I.length + O.length ≤ 3000 ∧ σ.loc "told" = some (.ref a) ∧ σ.H a = some ⟨true, acc.map cellP⟩ ∧
              ∀ σ', σ'.loc "told" = some (.ref a) → σ'.H a = some ⟨true, (acc ++ Pt3.cs ⟨k, I, O⟩).map cellP⟩ → K .next σ' := by
            clear kh
            obtain ⟨acc, todo, er, hok, l1, l4, hacc⟩ := hI
            cases todo with
            | nil => cases er
            | cons p todo =>
              cases er
              obtain ⟨k, I, O⟩ := p
              obtain ⟨hI, hL⟩ := hok ⟨k, I, O⟩ List.mem_cons_self
              simp only [Pt3.l, List.length_cons, List.length_append] at hL
              refine ⟨k, I, O, acc, rfl, hI, by (first | lia | omega), ?_, l1, l4, fun σ' q1 q2 => kn _ ⟨_, todo, rfl, fun p hp => hok p (List.mem_cons_of_mem _ hp), q1, q2, by rw [← hacc]; simp⟩⟩
              have := congrArg List.length hacc
              simp [Pt3.cs] at this
              (first | lia | omega)
          refine kh ?_
          clear kh Gh kn kc
          refine seq_to ⟨((((σ.loc.set "part" (.str (mkS (k :: (I ++ 1 :: O))))).set "inside" (.str (mkS I))).set "end" (.str (mkS [1]))).set "outside" (.str (mkS O))), σ.H⟩ (fun R hR => ?d1) ?d2
          case d1 =>
            refine get_W rfl ⟨_, rfl, cut_S (by rw [mkS_len, sizeLine_eq]; simp; (first | lia | omega)) ⟨_, rfl, ?_⟩⟩
            rw [scut_mk, show cut (k :: (I ++ 1 :: O)) (some 1) none = I ++ 1 :: O from cut_lo _ 1, ofS1]
            refine ⟨_, rfl, by rw [mkS_len]; rfl, by rw [mkS_len, sizeLine_eq]; simp; (first | lia | omega), ?_⟩
            rw [partition_mk I O 1 hI]
            exact ⟨_, _, _, rfl, hR⟩
          case d2 =>
            refine seq_to _ (fun R hR => get_W rfl (cmp_eqS (PySem.W.ite_neg (by rw [ofSe, mkS_beq]; decide) hR))) ?_
            refine seq_to ⟨((((σ.loc.set "part" (.str (mkS (k :: (I ++ 1 :: O))))).set "inside" (.str (mkS I))).set "end" (.str (mkS [1]))).set "outside" (.str (mkS O))), σ.H.set a ⟨true, (acc ++ Pt3.cs ⟨k, I, O⟩).map cellP⟩⟩ (fun R hR => ?e1) (hfin _ l1 (LH.set_self _ _ _))
            case e1 =>
              refine get_W l1 ⟨a, _, rfl, l4, get_W rfl ⟨_, rfl, by simp [strSigns, mkS, sizeLine_eq]; (first | lia | omega), ?_⟩⟩
              refine compW_map (fun p => .tup [p, .str (mkS [k])]) _ (fun p hp R1 hr => ?_) ?_
              · exact get_W rfl (get_W rfl (idx_S (l := k :: (I ++ 1 :: O)) (k := 0) (c := k) rfl (by simp; (first | lia | omega)) ⟨by rw [sizeLine_eq]; simp, hr⟩))
              refine listW_lst (get_W rfl ⟨_, rfl, by simp [strSigns, mkS, sizeLine_eq]; (first | lia | omega), ?_⟩)
              refine compW_map (fun p => .tup [p, .str (mkS [])]) _ (fun p hp R1 hr => ?_) ?_
              · rw [ofSe]
                exact get_W rfl ⟨by rw [sizeLine_eq]; simp, hr⟩
              refine listW_lst (bin_addLL (by simp [strSigns, mkS, sizeLine_eq]; (first | lia | omega)) (listW_lst ⟨_, _, l4, rfl, by simp [strSigns, mkS]; (first | lia | omega), ?_⟩))
              have hcs : acc.map cellP ++ ((strSigns (mkS I)).map (fun p => PV.tup [p, .str (mkS [k])]) ++ (strSigns (mkS O)).map (fun p => PV.tup [p, .str (mkS [])])) = (acc ++ Pt3.cs ⟨k, I, O⟩).map cellP := by
                simp [strSigns, mkS, cellP, Pt3.cs, Function.comp_def]
              rw [← hcs] at hR
              exact hR
end Mine
namespace Mine
/-- what the loop of _split_line does -/
inductive WhS (σ : St) (Q : Fl → St → Prop) : Prop
  | mk (T : List Tk) (wr : Nat) (h0 : wr < vis T) (h1 : PW [] T) (h2 : (flat T).length ≤ 6002) (h3 : σ.loc "i" = some (.int 0)) (h4 : σ.loc "n" = some (.int 0)) (h5 : σ.loc "mark" = some (.str (mkS []))) (h6 : σ.loc "max" = some (.int (wr : Nat))) (h7 : σ.loc "size" = some (.int ((flat T).length : Nat))) (h8 : σ.loc "text" = some (.str (mkS (flat T)))) (h9 : ∀ σ', SameBut ["i", "n", "mark"] σ σ' → σ'.loc "i" = some (.int ((flat (cutA wr T)).length : Nat)) → σ'.loc "mark" = some (.str (mkS (mkF [] (cutA wr T)))) → Q .next σ') : WhS σ Q
/-- a mark that is open at the cut -/
inductive IfS (σ : St) (Q : Fl → St → Prop) : Prop
  | mk (m X Y : List Nat) (h0 : m.length ≤ 1) (h1 : X.length ≤ 7000) (h2 : Y.length ≤ 7000) (h3 : σ.loc "mark" = some (.str (mkS m))) (h4 : σ.loc "line1" = some (.str (mkS X))) (h5 : σ.loc "line2" = some (.str (mkS Y))) (h6 : ∀ σ', SameBut ["line1", "line2"] σ σ' → σ'.loc "line1" = some (.str (mkS (X ++ post m))) → σ'.loc "line2" = some (.str (mkS (pre m ++ Y))) → Q .next σ') : IfS σ Q
/-- the lines behind the loop -/
inductive Rs2 (C : Addr) (W' : List PV → LH → (PV → LH → Prop) → Prop) (σ : St) (Q : Fl → St → Prop) : Prop
  | mk (fs : List (String × PV)) (a : Addr) (xs : List PV) (line : PV) (m X Y : List Nat) (h0 : m.length ≤ 1) (h1 : (X ++ Y).length ≤ 6002) (h2 : xs.length ≤ 10000) (h3 : fs.lookup "_split_line" = none) (h4 : σ.H a = some ⟨true, xs⟩) (h5 : σ.loc "text" = some (.str (mkS (X ++ Y)))) (h6 : σ.loc "i" = some (.int (X.length : Nat))) (h7 : σ.loc "mark" = some (.str (mkS m))) (h8 : σ.loc "self" = some (.obj C fs)) (h9 : σ.loc "data_list" = some (.ref a)) (h10 : σ.loc "line_num" = some line) (h11 : W' [.obj C fs, .ref a, .str (mkS [62]), .str (mkS (pre m ++ Y))] (σ.H.set a ⟨true, xs ++ [.tup [line, .str (mkS (X ++ post m))]]⟩) fun r H₃ => r = .none ∧ ∀ loc', Q .next ⟨loc', H₃⟩) : Rs2 C W' σ Q
/-- the lines behind the early ends -/
inductive Rs1 (C : Addr) (W' : List PV → LH → (PV → LH → Prop) → Prop) (σ : St) (Q : Fl → St → Prop) : Prop
  | mk (fs : List (String × PV)) (a : Addr) (xs : List PV) (line : PV) (T : List Tk) (wr : Nat) (h0 : wr < vis T) (h1 : PW [] T) (h2 : (flat T).length ≤ 6002) (h3 : xs.length ≤ 10000) (h4 : fs.lookup "_split_line" = none) (h5 : σ.H a = some ⟨true, xs⟩) (h6 : σ.loc "text" = some (.str (mkS (flat T)))) (h7 : σ.loc "size" = some (.int ((flat T).length : Nat))) (h8 : σ.loc "max" = some (.int (wr : Nat))) (h9 : σ.loc "self" = some (.obj C fs)) (h10 : σ.loc "data_list" = some (.ref a)) (h11 : σ.loc "line_num" = some line) (h12 : W' [.obj C fs, .ref a, .str (mkS [62]), .str (mkS (pre (mkF [] (cutA wr T)) ++ flat (cutB wr T)))] (σ.H.set a ⟨true, xs ++ [.tup [line, .str (mkS (flat (cutA wr T) ++ post (mkF [] (cutA wr T))))]]⟩) fun r H₃ => r = .none ∧ ∀ loc', Q .next ⟨loc', H₃⟩) : Rs1 C W' σ Q
/-- no line number: the text as it is -/
inductive S1S (σ : St) (Q : Fl → St → Prop) : Prop
  | mk (a : Addr) (xs : List PV) (line text : PV) (t : Bool) (h0 : xs.length ≤ 10000) (h1 : (∀ H R, R t → truthW line H R)) (h2 : σ.H a = some ⟨true, xs⟩) (h3 : σ.loc "data_list" = some (.ref a)) (h4 : σ.loc "line_num" = some line) (h5 : σ.loc "text" = some text) (h6 : (t = false → Q (.ret .none) ⟨σ.loc, σ.H.set a ⟨true, xs ++ [.tup [line, text]]⟩⟩)) (h7 : (t = true → Q .next σ)) : S1S σ Q
/-- a text that needs no cut -/
inductive S4S (σ : St) (Q : Fl → St → Prop) : Prop
  | mk (a : Addr) (xs : List PV) (line : PV) (T : List Tk) (wr : Nat) (h0 : xs.length ≤ 10000) (h1 : PW [] T) (h2 : mkF [] T = []) (h3 : (flat T).length ≤ 6002) (h4 : σ.H a = some ⟨true, xs⟩) (h5 : σ.loc "data_list" = some (.ref a)) (h6 : σ.loc "line_num" = some line) (h7 : σ.loc "text" = some (.str (mkS (flat T)))) (h8 : σ.loc "size" = some (.int ((flat T).length : Nat))) (h9 : σ.loc "max" = some (.int (wr : Nat))) (h10 : (vis T ≤ wr → Q (.ret .none) ⟨σ.loc, σ.H.set a ⟨true, xs ++ [.tup [line, .str (mkS (flat T))]]⟩⟩)) (h11 : (wr < vis T → Q .next σ)) : S4S σ Q
theorem split_gen (w : World) (n v : Nat) (W' : List PV → LH → (PV → LH → Prop) → Prop)
    (hop' : ∀ (h₀ : Heap) (prog : Program) (env : Env), Gr (Mine.kcap.heap_1 w.params) h₀ → ∀ loc Z H s ps vs, Sat h₀ Z env loc H s.heap → VRs Z ps vs → MOp h₀ prog w n env loc Z H s (call (.ref 65) vs) (W' ps H))
    (hmono : ∀ ps H (Q Q' : PV → LH → Prop), (∀ r H', Q r H' → Q' r H') → W' ps H Q → W' ps H Q') (hrec : v = 0 ∨ ∃ u, v = u + 1 ∧ W' = SpW 111 u) (h₀ : Heap) (prog : Program) (env : Env) (G : Gr (Mine.kcap.heap_1 w.params) h₀) :
    ∀ loc Z H s ps vs, Sat h₀ Z env loc H s.heap → VRs Z ps vs → MOp h₀ prog w (n + 1) env loc Z H s (call (.ref 65) vs) (SpW 111 v ps H) := by
  intro loc Z H s ps vs S hv
  refine' MOp.mono (mfn_ok (names := ["self", "data_list", "line_num", "text"]) G ?ho ?hcd ?hco ?hgen ?hk ?hbind ?hkind ?hnn ?hnd ?hb loc Z H s ps vs S hv) ?hw
  case ho => k_is
  case hcd => k_is
  case hco => rfl
  case hgen => rfl
  case hk => rfl
  case hbind => exact fun s => bind4 fun a b c d => rfl
  case hkind => decide +kernel
  case hnn => decide
  case hnd => decide +kernel
  case hb =>
    intro L'
    with_reducible refine' xs_cons ?_ ?_
    · refine' ExOk.mono (F' := S1S) ?s1 ?s1m
      case s1 => repeat' (first | with_reducible exact ev_int _ _ _ | with_reducible exact ev_str _ _ _ | with_reducible exact ev_none _ _ | with_reducible exact ev_bool _ _ _ | (with_reducible refine' ev_name _ _ ?_ ?_) | (with_reducible refine' ev_binop ?_ ?_) | (with_reducible refine' ev_neg ?_) | (with_reducible refine' ev_cmp ?_ ?_ ?_) | (with_reducible refine' ev_ifexp ?_ ?_ ?_) | (with_reducible refine' ev_list ?_) | (with_reducible refine' ev_tuple ?_) | with_reducible exact es_nil | (with_reducible refine' es_cons ?_ ?_ ?_) | (with_reducible refine' ev_cut ?_ ?_ ?_) | (with_reducible refine' ev_idx ?_ ?_ ?_) | with_reducible exact pt_none | (with_reducible refine' pt_some ?_) | (with_reducible refine' bt_cmp ?_ ?_ ?_) | (with_reducible refine' bt_not ?_) | (with_reducible refine' bt_bool ?_) | with_reducible exact at_and_nil | with_reducible exact at_or_nil | (with_reducible refine' at_and_cons ?_ ?_) | (with_reducible refine' at_or_cons ?_ ?_) | with_reducible exact xs_nil | (with_reducible refine' xs_cons ?_ ?_) | (with_reducible refine' st_assign ?_ ?_ ?_) | (with_reducible refine' st_aug ?_ ?_ ?_) | (with_reducible refine' st_if ?_ ?_ ?_) | (with_reducible refine' st_append ?_ ?_ ?_ ?_ ?_ ?_) | (with_reducible refine' st_augidx ?_ ?_ ?_ ?_) | (with_reducible refine' st_ret ?_) | with_reducible exact st_ret0 | with_reducible exact st_cont | with_reducible exact st_pass | (with_reducible refine' st_while ?_ ?_) | (with_reducible refine' st_for ?_ (as_name ?_) ?_ ?_ ?_) | (with_reducible refine' ev_len (by assumption) ?_ ?_ ?_ ?_ ?_ ?_ ?_ ?_) | (with_reducible refine' ev_chr (by assumption) ?_ ?_ ?_ ?_ ?_ ?_ ?_ ?_) | (with_reducible refine' ev_range (by assumption) ?_ ?_ ?_ ?_ ?_ ?_ ?_ ?_) | (with_reducible refine' ev_abs (by assumption) ?_ ?_ ?_ ?_ ?_ ?_ ?_ ?_) | (with_reducible refine' ev_count _ ?_ ?_ ?_ ?_ ?_) | (with_reducible refine' ev_split _ ?_ ?_ ?_ ?_ ?_) | (with_reducible refine' ev_index _ ?_ ?_ ?_ ?_) | (with_reducible refine' ev_attr (C := 111) (by assumption) ?_ ?_ ?_ ?_ ?_ ?_) | with_reducible exact ts_nil | (with_reducible refine' ts_one ?_) | ((with_reducible show nsIn _ _ _ = _); k_is) | ((with_reducible show plainGet _ _ _ = _); k_is) | ((with_reducible show hasDictIn _ _ = _); k_is) | ((with_reducible show findIn _ _ _ = _); k_is) | ((with_reducible show noGet _ _ = _); k_is) | ((with_reducible show Stores _ _); first | exact Or.inl rfl | exact Or.inr ⟨rfl, rfl⟩) | ((with_reducible show (_ == _) = false); decide) | ((with_reducible show behindInMarks _ _ = _); with_unfolding_all rfl) | ((with_reducible show _ ≤ _); decide) | ((with_reducible show _ = _); rfl) | ((with_reducible show ∀ _, _ = _); intro _; rfl) | ((with_reducible show ∀ _ _, _ = _); intro _ _; rfl) | ((with_reducible show ∀ _ _ _, _ = _); intro _ _ _; rfl) | (with_reducible refine' bt_val ?_ ?_))
      case s1m =>
        intro σ Q hh
        refine hide fun Gh kh => ?_
        obtain ⟨a, xs, line, text, t, hxs, htr, hH, ld, ll, lt, h0, h1⟩ := hh
        refine kh ?_
        clear kh Gh
        refine get_W ll (htr _ _ ?_)
        cases t with
        | false => exact PySem.W.ite_pos (by decide) (seq_to _ (fun R hR => get_W ld ⟨a, _, rfl, hH, get_W ll (get_W lt ⟨by rw [sizeLine_eq]; simp, xs, hH, by rw [sizeLine_eq]; (first | lia | omega), hR⟩)⟩) (seq_ret _ (fun R hR => hR) (h0 rfl)))
        | true => exact PySem.W.ite_neg (by decide) (h1 rfl)
    with_reducible refine' xs_cons ?_ ?_
    · repeat' (first | with_reducible exact ev_int _ _ _ | with_reducible exact ev_str _ _ _ | with_reducible exact ev_none _ _ | with_reducible exact ev_bool _ _ _ | (with_reducible refine' ev_name _ _ ?_ ?_) | (with_reducible refine' ev_binop ?_ ?_) | (with_reducible refine' ev_neg ?_) | (with_reducible refine' ev_cmp ?_ ?_ ?_) | (with_reducible refine' ev_ifexp ?_ ?_ ?_) | (with_reducible refine' ev_list ?_) | (with_reducible refine' ev_tuple ?_) | with_reducible exact es_nil | (with_reducible refine' es_cons ?_ ?_ ?_) | (with_reducible refine' ev_cut ?_ ?_ ?_) | (with_reducible refine' ev_idx ?_ ?_ ?_) | with_reducible exact pt_none | (with_reducible refine' pt_some ?_) | (with_reducible refine' bt_cmp ?_ ?_ ?_) | (with_reducible refine' bt_not ?_) | (with_reducible refine' bt_bool ?_) | with_reducible exact at_and_nil | with_reducible exact at_or_nil | (with_reducible refine' at_and_cons ?_ ?_) | (with_reducible refine' at_or_cons ?_ ?_) | with_reducible exact xs_nil | (with_reducible refine' xs_cons ?_ ?_) | (with_reducible refine' st_assign ?_ ?_ ?_) | (with_reducible refine' st_aug ?_ ?_ ?_) | (with_reducible refine' st_if ?_ ?_ ?_) | (with_reducible refine' st_append ?_ ?_ ?_ ?_ ?_ ?_) | (with_reducible refine' st_augidx ?_ ?_ ?_ ?_) | (with_reducible refine' st_ret ?_) | with_reducible exact st_ret0 | with_reducible exact st_cont | with_reducible exact st_pass | (with_reducible refine' st_while ?_ ?_) | (with_reducible refine' st_for ?_ (as_name ?_) ?_ ?_ ?_) | (with_reducible refine' ev_len (by assumption) ?_ ?_ ?_ ?_ ?_ ?_ ?_ ?_) | (with_reducible refine' ev_chr (by assumption) ?_ ?_ ?_ ?_ ?_ ?_ ?_ ?_) | (with_reducible refine' ev_range (by assumption) ?_ ?_ ?_ ?_ ?_ ?_ ?_ ?_) | (with_reducible refine' ev_abs (by assumption) ?_ ?_ ?_ ?_ ?_ ?_ ?_ ?_) | (with_reducible refine' ev_count _ ?_ ?_ ?_ ?_ ?_) | (with_reducible refine' ev_split _ ?_ ?_ ?_ ?_ ?_) | (with_reducible refine' ev_index _ ?_ ?_ ?_ ?_) | (with_reducible refine' ev_attr (C := 111) (by assumption) ?_ ?_ ?_ ?_ ?_ ?_) | with_reducible exact ts_nil | (with_reducible refine' ts_one ?_) | ((with_reducible show nsIn _ _ _ = _); k_is) | ((with_reducible show plainGet _ _ _ = _); k_is) | ((with_reducible show hasDictIn _ _ = _); k_is) | ((with_reducible show findIn _ _ _ = _); k_is) | ((with_reducible show noGet _ _ = _); k_is) | ((with_reducible show Stores _ _); first | exact Or.inl rfl | exact Or.inr ⟨rfl, rfl⟩) | ((with_reducible show (_ == _) = false); decide) | ((with_reducible show behindInMarks _ _ = _); with_unfolding_all rfl) | ((with_reducible show _ ≤ _); decide) | ((with_reducible show _ = _); rfl) | ((with_reducible show ∀ _, _ = _); intro _; rfl) | ((with_reducible show ∀ _ _, _ = _); intro _ _; rfl) | ((with_reducible show ∀ _ _ _, _ = _); intro _ _ _; rfl) | (with_reducible refine' bt_val ?_ ?_))
    with_reducible refine' xs_cons ?_ ?_
    · repeat' (first | with_reducible exact ev_int _ _ _ | with_reducible exact ev_str _ _ _ | with_reducible exact ev_none _ _ | with_reducible exact ev_bool _ _ _ | (with_reducible refine' ev_name _ _ ?_ ?_) | (with_reducible refine' ev_binop ?_ ?_) | (with_reducible refine' ev_neg ?_) | (with_reducible refine' ev_cmp ?_ ?_ ?_) | (with_reducible refine' ev_ifexp ?_ ?_ ?_) | (with_reducible refine' ev_list ?_) | (with_reducible refine' ev_tuple ?_) | with_reducible exact es_nil | (with_reducible refine' es_cons ?_ ?_ ?_) | (with_reducible refine' ev_cut ?_ ?_ ?_) | (with_reducible refine' ev_idx ?_ ?_ ?_) | with_reducible exact pt_none | (with_reducible refine' pt_some ?_) | (with_reducible refine' bt_cmp ?_ ?_ ?_) | (with_reducible refine' bt_not ?_) | (with_reducible refine' bt_bool ?_) | with_reducible exact at_and_nil | with_reducible exact at_or_nil | (with_reducible refine' at_and_cons ?_ ?_) | (with_reducible refine' at_or_cons ?_ ?_) | with_reducible exact xs_nil | (with_reducible refine' xs_cons ?_ ?_) | (with_reducible refine' st_assign ?_ ?_ ?_) | (with_reducible refine' st_aug ?_ ?_ ?_) | (with_reducible refine' st_if ?_ ?_ ?_) | (with_reducible refine' st_append ?_ ?_ ?_ ?_ ?_ ?_) | (with_reducible refine' st_augidx ?_ ?_ ?_ ?_) | (with_reducible refine' st_ret ?_) | with_reducible exact st_ret0 | with_reducible exact st_cont | with_reducible exact st_pass | (with_reducible refine' st_while ?_ ?_) | (with_reducible refine' st_for ?_ (as_name ?_) ?_ ?_ ?_) | (with_reducible refine' ev_len (by assumption) ?_ ?_ ?_ ?_ ?_ ?_ ?_ ?_) | (with_reducible refine' ev_chr (by assumption) ?_ ?_ ?_ ?_ ?_ ?_ ?_ ?_) | (with_reducible refine' ev_range (by assumption) ?_ ?_ ?_ ?_ ?_ ?_ ?_ ?_) | (with_reducible refine' ev_abs (by assumption) ?_ ?_ ?_ ?_ ?_ ?_ ?_ ?_) | (with_reducible refine' ev_count _ ?_ ?_ ?_ ?_ ?_) | (with_reducible refine' ev_split _ ?_ ?_ ?_ ?_ ?_) | (with_reducible refine' ev_index _ ?_ ?_ ?_ ?_) | (with_reducible refine' ev_attr (C := 111) (by assumption) ?_ ?_ ?_ ?_ ?_ ?_) | with_reducible exact ts_nil | (with_reducible refine' ts_one ?_) | ((with_reducible show nsIn _ _ _ = _); k_is) | ((with_reducible show plainGet _ _ _ = _); k_is) | ((with_reducible show hasDictIn _ _ = _); k_is) | ((with_reducible show findIn _ _ _ = _); k_is) | ((with_reducible show noGet _ _ = _); k_is) | ((with_reducible show Stores _ _); first | exact Or.inl rfl | exact Or.inr ⟨rfl, rfl⟩) | ((with_reducible show (_ == _) = false); decide) | ((with_reducible show behindInMarks _ _ = _); with_unfolding_all rfl) | ((with_reducible show _ ≤ _); decide) | ((with_reducible show _ = _); rfl) | ((with_reducible show ∀ _, _ = _); intro _; rfl) | ((with_reducible show ∀ _ _, _ = _); intro _ _; rfl) | ((with_reducible show ∀ _ _ _, _ = _); intro _ _ _; rfl) | (with_reducible refine' bt_val ?_ ?_))
    with_reducible refine' xs_cons ?_ ?_
    · refine' ExOk.mono (F' := S4S) ?s4 ?s4m
      case s4 => repeat' (first | with_reducible exact ev_int _ _ _ | with_reducible exact ev_str _ _ _ | with_reducible exact ev_none _ _ | with_reducible exact ev_bool _ _ _ | (with_reducible refine' ev_name _ _ ?_ ?_) | (with_reducible refine' ev_binop ?_ ?_) | (with_reducible refine' ev_neg ?_) | (with_reducible refine' ev_cmp ?_ ?_ ?_) | (with_reducible refine' ev_ifexp ?_ ?_ ?_) | (with_reducible refine' ev_list ?_) | (with_reducible refine' ev_tuple ?_) | with_reducible exact es_nil | (with_reducible refine' es_cons ?_ ?_ ?_) | (with_reducible refine' ev_cut ?_ ?_ ?_) | (with_reducible refine' ev_idx ?_ ?_ ?_) | with_reducible exact pt_none | (with_reducible refine' pt_some ?_) | (with_reducible refine' bt_cmp ?_ ?_ ?_) | (with_reducible refine' bt_not ?_) | (with_reducible refine' bt_bool ?_) | with_reducible exact at_and_nil | with_reducible exact at_or_nil | (with_reducible refine' at_and_cons ?_ ?_) | (with_reducible refine' at_or_cons ?_ ?_) | with_reducible exact xs_nil | (with_reducible refine' xs_cons ?_ ?_) | (with_reducible refine' st_assign ?_ ?_ ?_) | (with_reducible refine' st_aug ?_ ?_ ?_) | (with_reducible refine' st_if ?_ ?_ ?_) | (with_reducible refine' st_append ?_ ?_ ?_ ?_ ?_ ?_) | (with_reducible refine' st_augidx ?_ ?_ ?_ ?_) | (with_reducible refine' st_ret ?_) | with_reducible exact st_ret0 | with_reducible exact st_cont | with_reducible exact st_pass | (with_reducible refine' st_while ?_ ?_) | (with_reducible refine' st_for ?_ (as_name ?_) ?_ ?_ ?_) | (with_reducible refine' ev_len (by assumption) ?_ ?_ ?_ ?_ ?_ ?_ ?_ ?_) | (with_reducible refine' ev_chr (by assumption) ?_ ?_ ?_ ?_ ?_ ?_ ?_ ?_) | (with_reducible refine' ev_range (by assumption) ?_ ?_ ?_ ?_ ?_ ?_ ?_ ?_) | (with_reducible refine' ev_abs (by assumption) ?_ ?_ ?_ ?_ ?_ ?_ ?_ ?_) | (with_reducible refine' ev_count _ ?_ ?_ ?_ ?_ ?_) | (with_reducible refine' ev_split _ ?_ ?_ ?_ ?_ ?_) | (with_reducible refine' ev_index _ ?_ ?_ ?_ ?_) | (with_reducible refine' ev_attr (C := 111) (by assumption) ?_ ?_ ?_ ?_ ?_ ?_) | with_reducible exact ts_nil | (with_reducible refine' ts_one ?_) | ((with_reducible show nsIn _ _ _ = _); k_is) | ((with_reducible show plainGet _ _ _ = _); k_is) | ((with_reducible show hasDictIn _ _ = _); k_is) | ((with_reducible show findIn _ _ _ = _); k_is) | ((with_reducible show noGet _ _ = _); k_is) | ((with_reducible show Stores _ _); first | exact Or.inl rfl | exact Or.inr ⟨rfl, rfl⟩) | ((with_reducible show (_ == _) = false); decide) | ((with_reducible show behindInMarks _ _ = _); with_unfolding_all rfl) | ((with_reducible show _ ≤ _); decide) | ((with_reducible show _ = _); rfl) | ((with_reducible show ∀ _, _ = _); intro _; rfl) | ((with_reducible show ∀ _ _, _ = _); intro _ _; rfl) | ((with_reducible show ∀ _ _ _, _ = _); intro _ _ _; rfl) | (with_reducible refine' bt_val ?_ ?_))
      case s4m =>
        intro σ Q hh
        refine hide fun Gh kh => ?_
        obtain ⟨a, xs, line, T, wr, hxs, hPT, hcl, hL, hH, ld, ll, lt, ls, lx, h0, h1⟩ := hh
        have hfl := flat_len [] _ hPT
        have hba := flat_bal [] _ hPT
        rw [hcl, one_nil] at hba
        refine kh ?_
        clear kh Gh
        refine get_W ls (get_W lx (cmp_leI ?_))
        by_cases hs : (((flat T).length : Nat) : Int) ≤ (wr : Int)
        · refine PySem.W.ite_pos (decide_eq_true hs) ?_
          exact PySem.W.ite_pos rfl (seq_to _ (fun R hR => get_W ld ⟨a, _, rfl, hH, get_W ll (get_W lt ⟨by rw [sizeLine_eq]; simp, xs, hH, by rw [sizeLine_eq]; (first | lia | omega), hR⟩)⟩) (seq_ret _ (fun R hR => hR) (h0 (by (first | lia | omega)))))
        · refine PySem.W.ite_neg (by simpa using hs) ?_
          rw [ofS0]
          refine get_W ls (get_W lt ⟨_, rfl, count_W (bin_mulI (IntMulOk.of_right (by decide)) (bin_subI (get_W lx (cmp_leI ?_))))⟩)
          by_cases hv : vis T ≤ wr
          · refine PySem.W.ite_pos (decide_eq_true (by (first | lia | omega))) ?_
            exact PySem.W.ite_pos rfl (seq_to _ (fun R hR => get_W ld ⟨a, _, rfl, hH, get_W ll (get_W lt ⟨by rw [sizeLine_eq]; simp, xs, hH, by rw [sizeLine_eq]; (first | lia | omega), hR⟩)⟩) (seq_ret _ (fun R hR => hR) (h0 hv)))
          · refine PySem.W.ite_neg (by rw [decide_eq_true_eq]; (first | lia | omega)) ?_
            exact PySem.W.ite_neg (by decide) (h1 (by (first | lia | omega)))
    refine' XsOk.mono (F' := Rs1 111 W') ?r1 ?r1m
    case r1 =>
      with_reducible refine' xs_cons ?sq1 ?tq1
      case sq1 =>
        repeat' (first | with_reducible exact ev_int _ _ _ | with_reducible exact ev_str _ _ _ | with_reducible exact ev_none _ _ | with_reducible exact ev_bool _ _ _ | (with_reducible refine' ev_name _ _ ?_ ?_) | (with_reducible refine' ev_binop ?_ ?_) | (with_reducible refine' ev_neg ?_) | (with_reducible refine' ev_cmp ?_ ?_ ?_) | (with_reducible refine' ev_ifexp ?_ ?_ ?_) | (with_reducible refine' ev_list ?_) | (with_reducible refine' ev_tuple ?_) | with_reducible exact es_nil | (with_reducible refine' es_cons ?_ ?_ ?_) | (with_reducible refine' ev_cut ?_ ?_ ?_) | (with_reducible refine' ev_idx ?_ ?_ ?_) | with_reducible exact pt_none | (with_reducible refine' pt_some ?_) | (with_reducible refine' bt_cmp ?_ ?_ ?_) | (with_reducible refine' bt_not ?_) | (with_reducible refine' bt_bool ?_) | with_reducible exact at_and_nil | with_reducible exact at_or_nil | (with_reducible refine' at_and_cons ?_ ?_) | (with_reducible refine' at_or_cons ?_ ?_) | with_reducible exact xs_nil | (with_reducible refine' xs_cons ?_ ?_) | (with_reducible refine' st_assign ?_ ?_ ?_) | (with_reducible refine' st_aug ?_ ?_ ?_) | (with_reducible refine' st_if ?_ ?_ ?_) | (with_reducible refine' st_append ?_ ?_ ?_ ?_ ?_ ?_) | (with_reducible refine' st_augidx ?_ ?_ ?_ ?_) | (with_reducible refine' st_ret ?_) | with_reducible exact st_ret0 | with_reducible exact st_cont | with_reducible exact st_pass | (with_reducible refine' st_while ?_ ?_) | (with_reducible refine' st_for ?_ (as_name ?_) ?_ ?_ ?_) | (with_reducible refine' ev_len (by assumption) ?_ ?_ ?_ ?_ ?_ ?_ ?_ ?_) | (with_reducible refine' ev_chr (by assumption) ?_ ?_ ?_ ?_ ?_ ?_ ?_ ?_) | (with_reducible refine' ev_range (by assumption) ?_ ?_ ?_ ?_ ?_ ?_ ?_ ?_) | (with_reducible refine' ev_abs (by assumption) ?_ ?_ ?_ ?_ ?_ ?_ ?_ ?_) | (with_reducible refine' ev_count _ ?_ ?_ ?_ ?_ ?_) | (with_reducible refine' ev_split _ ?_ ?_ ?_ ?_ ?_) | (with_reducible refine' ev_index _ ?_ ?_ ?_ ?_) | (with_reducible refine' ev_attr (C := 111) (by assumption) ?_ ?_ ?_ ?_ ?_ ?_) | with_reducible exact ts_nil | (with_reducible refine' ts_one ?_) | ((with_reducible show nsIn _ _ _ = _); k_is) | ((with_reducible show plainGet _ _ _ = _); k_is) | ((with_reducible show hasDictIn _ _ = _); k_is) | ((with_reducible show findIn _ _ _ = _); k_is) | ((with_reducible show noGet _ _ = _); k_is) | ((with_reducible show Stores _ _); first | exact Or.inl rfl | exact Or.inr ⟨rfl, rfl⟩) | ((with_reducible show (_ == _) = false); decide) | ((with_reducible show behindInMarks _ _ = _); with_unfolding_all rfl) | ((with_reducible show _ ≤ _); decide) | ((with_reducible show _ = _); rfl) | ((with_reducible show ∀ _, _ = _); intro _; rfl) | ((with_reducible show ∀ _ _, _ = _); intro _ _; rfl) | ((with_reducible show ∀ _ _ _, _ = _); intro _ _ _; rfl) | (with_reducible refine' bt_val ?_ ?_))
      case tq1 =>
        with_reducible refine' xs_cons ?sq2 ?tq2
        case sq2 =>
          repeat' (first | with_reducible exact ev_int _ _ _ | with_reducible exact ev_str _ _ _ | with_reducible exact ev_none _ _ | with_reducible exact ev_bool _ _ _ | (with_reducible refine' ev_name _ _ ?_ ?_) | (with_reducible refine' ev_binop ?_ ?_) | (with_reducible refine' ev_neg ?_) | (with_reducible refine' ev_cmp ?_ ?_ ?_) | (with_reducible refine' ev_ifexp ?_ ?_ ?_) | (with_reducible refine' ev_list ?_) | (with_reducible refine' ev_tuple ?_) | with_reducible exact es_nil | (with_reducible refine' es_cons ?_ ?_ ?_) | (with_reducible refine' ev_cut ?_ ?_ ?_) | (with_reducible refine' ev_idx ?_ ?_ ?_) | with_reducible exact pt_none | (with_reducible refine' pt_some ?_) | (with_reducible refine' bt_cmp ?_ ?_ ?_) | (with_reducible refine' bt_not ?_) | (with_reducible refine' bt_bool ?_) | with_reducible exact at_and_nil | with_reducible exact at_or_nil | (with_reducible refine' at_and_cons ?_ ?_) | (with_reducible refine' at_or_cons ?_ ?_) | with_reducible exact xs_nil | (with_reducible refine' xs_cons ?_ ?_) | (with_reducible refine' st_assign ?_ ?_ ?_) | (with_reducible refine' st_aug ?_ ?_ ?_) | (with_reducible refine' st_if ?_ ?_ ?_) | (with_reducible refine' st_append ?_ ?_ ?_ ?_ ?_ ?_) | (with_reducible refine' st_augidx ?_ ?_ ?_ ?_) | (with_reducible refine' st_ret ?_) | with_reducible exact st_ret0 | with_reducible exact st_cont | with_reducible exact st_pass | (with_reducible refine' st_while ?_ ?_) | (with_reducible refine' st_for ?_ (as_name ?_) ?_ ?_ ?_) | (with_reducible refine' ev_len (by assumption) ?_ ?_ ?_ ?_ ?_ ?_ ?_ ?_) | (with_reducible refine' ev_chr (by assumption) ?_ ?_ ?_ ?_ ?_ ?_ ?_ ?_) | (with_reducible refine' ev_range (by assumption) ?_ ?_ ?_ ?_ ?_ ?_ ?_ ?_) | (with_reducible refine' ev_abs (by assumption) ?_ ?_ ?_ ?_ ?_ ?_ ?_ ?_) | (with_reducible refine' ev_count _ ?_ ?_ ?_ ?_ ?_) | (with_reducible refine' ev_split _ ?_ ?_ ?_ ?_ ?_) | (with_reducible refine' ev_index _ ?_ ?_ ?_ ?_) | (with_reducible refine' ev_attr (C := 111) (by assumption) ?_ ?_ ?_ ?_ ?_ ?_) | with_reducible exact ts_nil | (with_reducible refine' ts_one ?_) | ((with_reducible show nsIn _ _ _ = _); k_is) | ((with_reducible show plainGet _ _ _ = _); k_is) | ((with_reducible show hasDictIn _ _ = _); k_is) | ((with_reducible show findIn _ _ _ = _); k_is) | ((with_reducible show noGet _ _ = _); k_is) | ((with_reducible show Stores _ _); first | exact Or.inl rfl | exact Or.inr ⟨rfl, rfl⟩) | ((with_reducible show (_ == _) = false); decide) | ((with_reducible show behindInMarks _ _ = _); with_unfolding_all rfl) | ((with_reducible show _ ≤ _); decide) | ((with_reducible show _ = _); rfl) | ((with_reducible show ∀ _, _ = _); intro _; rfl) | ((with_reducible show ∀ _ _, _ = _); intro _ _; rfl) | ((with_reducible show ∀ _ _ _, _ = _); intro _ _ _; rfl) | (with_reducible refine' bt_val ?_ ?_))
        case tq2 =>
          with_reducible refine' xs_cons ?sq3 ?tq3
          case sq3 =>
            repeat' (first | with_reducible exact ev_int _ _ _ | with_reducible exact ev_str _ _ _ | with_reducible exact ev_none _ _ | with_reducible exact ev_bool _ _ _ | (with_reducible refine' ev_name _ _ ?_ ?_) | (with_reducible refine' ev_binop ?_ ?_) | (with_reducible refine' ev_neg ?_) | (with_reducible refine' ev_cmp ?_ ?_ ?_) | (with_reducible refine' ev_ifexp ?_ ?_ ?_) | (with_reducible refine' ev_list ?_) | (with_reducible refine' ev_tuple ?_) | with_reducible exact es_nil | (with_reducible refine' es_cons ?_ ?_ ?_) | (with_reducible refine' ev_cut ?_ ?_ ?_) | (with_reducible refine' ev_idx ?_ ?_ ?_) | with_reducible exact pt_none | (with_reducible refine' pt_some ?_) | (with_reducible refine' bt_cmp ?_ ?_ ?_) | (with_reducible refine' bt_not ?_) | (with_reducible refine' bt_bool ?_) | with_reducible exact at_and_nil | with_reducible exact at_or_nil | (with_reducible refine' at_and_cons ?_ ?_) | (with_reducible refine' at_or_cons ?_ ?_) | with_reducible exact xs_nil | (with_reducible refine' xs_cons ?_ ?_) | (with_reducible refine' st_assign ?_ ?_ ?_) | (with_reducible refine' st_aug ?_ ?_ ?_) | (with_reducible refine' st_if ?_ ?_ ?_) | (with_reducible refine' st_append ?_ ?_ ?_ ?_ ?_ ?_) | (with_reducible refine' st_augidx ?_ ?_ ?_ ?_) | (with_reducible refine' st_ret ?_) | with_reducible exact st_ret0 | with_reducible exact st_cont | with_reducible exact st_pass | (with_reducible refine' st_while ?_ ?_) | (with_reducible refine' st_for ?_ (as_name ?_) ?_ ?_ ?_) | (with_reducible refine' ev_len (by assumption) ?_ ?_ ?_ ?_ ?_ ?_ ?_ ?_) | (with_reducible refine' ev_chr (by assumption) ?_ ?_ ?_ ?_ ?_ ?_ ?_ ?_) | (with_reducible refine' ev_range (by assumption) ?_ ?_ ?_ ?_ ?_ ?_ ?_ ?_) | (with_reducible refine' ev_abs (by assumption) ?_ ?_ ?_ ?_ ?_ ?_ ?_ ?_) | (with_reducible refine' ev_count _ ?_ ?_ ?_ ?_ ?_) | (with_reducible refine' ev_split _ ?_ ?_ ?_ ?_ ?_) | (with_reducible refine' ev_index _ ?_ ?_ ?_ ?_) | (with_reducible refine' ev_attr (C := 111) (by assumption) ?_ ?_ ?_ ?_ ?_ ?_) | with_reducible exact ts_nil | (with_reducible refine' ts_one ?_) | ((with_reducible show nsIn _ _ _ = _); k_is) | ((with_reducible show plainGet _ _ _ = _); k_is) | ((with_reducible show hasDictIn _ _ = _); k_is) | ((with_reducible show findIn _ _ _ = _); k_is) | ((with_reducible show noGet _ _ = _); k_is) | ((with_reducible show Stores _ _); first | exact Or.inl rfl | exact Or.inr ⟨rfl, rfl⟩) | ((with_reducible show (_ == _) = false); decide) | ((with_reducible show behindInMarks _ _ = _); with_unfolding_all rfl) | ((with_reducible show _ ≤ _); decide) | ((with_reducible show _ = _); rfl) | ((with_reducible show ∀ _, _ = _); intro _; rfl) | ((with_reducible show ∀ _ _, _ = _); intro _ _; rfl) | ((with_reducible show ∀ _ _ _, _ = _); intro _ _ _; rfl) | (with_reducible refine' bt_val ?_ ?_))
          case tq3 =>
            with_reducible refine' xs_cons ?sq4 ?tq4
            case sq4 =>
              refine' ExOk.mono (F' := WhS) ?wh ?whm
              case wh => repeat' (first | with_reducible exact ev_int _ _ _ | with_reducible exact ev_str _ _ _ | with_reducible exact ev_none _ _ | with_reducible exact ev_bool _ _ _ | (with_reducible refine' ev_name _ _ ?_ ?_) | (with_reducible refine' ev_binop ?_ ?_) | (with_reducible refine' ev_neg ?_) | (with_reducible refine' ev_cmp ?_ ?_ ?_) | (with_reducible refine' ev_ifexp ?_ ?_ ?_) | (with_reducible refine' ev_list ?_) | (with_reducible refine' ev_tuple ?_) | with_reducible exact es_nil | (with_reducible refine' es_cons ?_ ?_ ?_) | (with_reducible refine' ev_cut ?_ ?_ ?_) | (with_reducible refine' ev_idx ?_ ?_ ?_) | with_reducible exact pt_none | (with_reducible refine' pt_some ?_) | (with_reducible refine' bt_cmp ?_ ?_ ?_) | (with_reducible refine' bt_not ?_) | (with_reducible refine' bt_bool ?_) | with_reducible exact at_and_nil | with_reducible exact at_or_nil | (with_reducible refine' at_and_cons ?_ ?_) | (with_reducible refine' at_or_cons ?_ ?_) | with_reducible exact xs_nil | (with_reducible refine' xs_cons ?_ ?_) | (with_reducible refine' st_assign ?_ ?_ ?_) | (with_reducible refine' st_aug ?_ ?_ ?_) | (with_reducible refine' st_if ?_ ?_ ?_) | (with_reducible refine' st_append ?_ ?_ ?_ ?_ ?_ ?_) | (with_reducible refine' st_augidx ?_ ?_ ?_ ?_) | (with_reducible refine' st_ret ?_) | with_reducible exact st_ret0 | with_reducible exact st_cont | with_reducible exact st_pass | (with_reducible refine' st_while ?_ ?_) | (with_reducible refine' st_for ?_ (as_name ?_) ?_ ?_ ?_) | (with_reducible refine' ev_len (by assumption) ?_ ?_ ?_ ?_ ?_ ?_ ?_ ?_) | (with_reducible refine' ev_chr (by assumption) ?_ ?_ ?_ ?_ ?_ ?_ ?_ ?_) | (with_reducible refine' ev_range (by assumption) ?_ ?_ ?_ ?_ ?_ ?_ ?_ ?_) | (with_reducible refine' ev_abs (by assumption) ?_ ?_ ?_ ?_ ?_ ?_ ?_ ?_) | (with_reducible refine' ev_count _ ?_ ?_ ?_ ?_ ?_) | (with_reducible refine' ev_split _ ?_ ?_ ?_ ?_ ?_) | (with_reducible refine' ev_index _ ?_ ?_ ?_ ?_) | (with_reducible refine' ev_attr (C := 111) (by assumption) ?_ ?_ ?_ ?_ ?_ ?_) | with_reducible exact ts_nil | (with_reducible refine' ts_one ?_) | ((with_reducible show nsIn _ _ _ = _); k_is) | ((with_reducible show plainGet _ _ _ = _); k_is) | ((with_reducible show hasDictIn _ _ = _); k_is) | ((with_reducible show findIn _ _ _ = _); k_is) | ((with_reducible show noGet _ _ = _); k_is) | ((with_reducible show Stores _ _); first | exact Or.inl rfl | exact Or.inr ⟨rfl, rfl⟩) | ((with_reducible show (_ == _) = false); decide) | ((with_reducible show behindInMarks _ _ = _); with_unfolding_all rfl) | ((with_reducible show _ ≤ _); decide) | ((with_reducible show _ = _); rfl) | ((with_reducible show ∀ _, _ = _); intro _; rfl) | ((with_reducible show ∀ _ _, _ = _); intro _ _; rfl) | ((with_reducible show ∀ _ _ _, _ = _); intro _ _ _; rfl) | (with_reducible refine' bt_val ?_ ?_))
              case whm =>
                intro σ Q hh
                refine hide fun Gh kh => ?_
                obtain ⟨T, wr, hv, hPT, hL, li0, ln0, lm0, lx0, ls0, lt0, hQ⟩ := hh
                refine kh ?_
                clear kh Gh
                refine whileW_inv (fun k σ₁ => ∃ A B', LpI T wr A B' ∧ k = B'.length ∧ SameBut ["i", "n", "mark"] σ σ₁ ∧ σ₁.loc "i" = some (.int ((flat A).length : Nat)) ∧ σ₁.loc "n" = some (.int (vis A : Nat)) ∧ σ₁.loc "mark" = some (.str (mkS (mkF [] A)))) ?step T.length _ ?init
                case init => exact ⟨[], T, LpI.init _ _, rfl, SameBut.refl _ _, li0, ln0, lm0⟩
                case step =>
                  intro k σ₁ K hI' kn kc
                  refine hide fun Gh kh => ?_
                  obtain ⟨A, B', hI, rfl, hs, li, ln, lm⟩ := hI'
                  have lx := hs.get (by decide) lx0
                  have ls := hs.get (by decide) ls0
                  have lt := hs.get (by decide) lt0
                  have e : flat T = flat A ++ flat B' := by rw [hI.all, flat_app]
                  have hvA : vis T = vis A + vis B' := by rw [← vis_app, ← hI.all]
                  have hPAB := hPT
                  rw [hI.all, PW_app] at hPAB
                  refine kh ?_
                  clear kh Gh
                  refine get_W ln (get_W lx (cmp_ltI ?_))
                  by_cases hlt : vis A < wr
                  · refine PySem.W.ite_pos (decide_eq_true (by (first | lia | omega))) ?_
                    refine hide fun Gh kh => ?_
                    obtain ⟨t, B'', rfl⟩ : ∃ t B'', B' = t :: B'' := by
                      cases B' with
                      | nil => simp only [vis] at hvA; (first | lia | omega)
                      | cons t B'' => exact ⟨t, B'', rfl⟩
                    have hnx := hI.next hlt
                    have hsz : (flat A).length < (flat T).length := by
                      rw [e, List.length_append]
                      cases t <;> simp [flat, Tk.f]
                    have hkn : ∀ l : Loc, SameBut ["i", "n", "mark"] σ ⟨l, σ₁.H⟩ → l "i" = some (.int ((flat (A ++ [t])).length : Nat)) → l "n" = some (.int (vis (A ++ [t]) : Nat)) → l "mark" = some (.str (mkS (mkF [] (A ++ [t])))) → K .next ⟨l, σ₁.H⟩ :=
                      fun l h1 h2 h3 h4 => kn B''.length _ (by simp) ⟨A ++ [t], B'', hnx, rfl, h1, h2, h3, h4⟩
                    rw [flat_app, vis_app, mkF_app, List.length_append] at hkn
                    refine kh ?_
                    clear kh Gh kn kc
                    refine get_W li (get_W ls (cmp_ltI ?_))
                    refine PySem.W.ite_pos (decide_eq_true (by (first | lia | omega))) ?_
                    rw [ofS0, ofS1]
                    refine PySem.W.ite_pos rfl (seq_ex (fun σ' => ∃ l, σ' = ⟨l, σ₁.H⟩ ∧ K .next ⟨l, σ₁.H⟩) (fun R hR => ?_) fun σ' h => by obtain ⟨l, rfl, h⟩ := h; exact h)
                    refine get_W lt (get_W li ?_)
                    cases t with
                    | op j =>
                      have hg0 : (flat T)[(flat A).length]? = some 0 := by rw [e]; exact get_app (flat A) (flat (.op j :: B'')) 0
                      have hg1 : (flat T)[(flat A).length + 1]? = some j := by rw [e]; exact get_app (flat A) (flat (.op j :: B'')) 1
                      refine idx_S hg0 (by (first | lia | omega)) (cmp_eqS (PySem.W.ite_pos (by rw [mkS_beq]; rfl) ?_))
                      refine seq_to ⟨σ₁.loc.set "i" (.int (((flat A).length + 1 : Nat) : Int)), σ₁.H⟩ (fun R hR => get_W li (in_addI hR)) ?_
                      refine seq_to ⟨(σ₁.loc.set "i" (.int (((flat A).length + 1 : Nat) : Int))).set "mark" (.str (mkS [j])), σ₁.H⟩ (fun R hR => get_W lt (get_W rfl (idx_S hg1 (by (first | lia | omega)) hR))) ?_
                      exact seq_to _ (fun R hR => get_W rfl (in_addI hR)) (hR _ ⟨_, rfl, hkn _ (((hs.set (by decide)).set (by decide)).set (by decide)) rfl ln rfl⟩)
                    | cl =>
                      have hg0 : (flat T)[(flat A).length]? = some 1 := by rw [e]; exact get_app (flat A) (flat (.cl :: B'')) 0
                      refine idx_S hg0 (by (first | lia | omega)) (cmp_eqS (PySem.W.ite_neg (by rw [mkS_beq]; decide) ?_))
                      refine seq_to _ (fun R' hR' => get_W lt (get_W li (idx_S hg0 (by (first | lia | omega)) (cmp_eqS (PySem.W.ite_pos (by rw [mkS_beq]; rfl) (seq_to _ (fun R hR => get_W li (in_addI hR)) (seq_to _ (fun R hR => hR) hR'))))))) (hR _ ⟨_, rfl, hkn _ ((hs.set (by decide)).set (by decide)) rfl ln ?_⟩)
                      rw [ofSe]; rfl
                    | sg c =>
                      have hc2 : 2 ≤ c := hPAB.2.1
                      have hg0 : (flat T)[(flat A).length]? = some c := by rw [e]; exact get_app (flat A) (flat (.sg c :: B'')) 0
                      refine idx_S hg0 (by (first | lia | omega)) (cmp_eqS (PySem.W.ite_neg (by rw [mkS_beq]; simp; (first | lia | omega)) ?_))
                      exact seq_to _ (fun R' hR' => get_W lt (get_W li (idx_S hg0 (by (first | lia | omega)) (cmp_eqS (PySem.W.ite_neg (by rw [mkS_beq]; simp; (first | lia | omega)) (seq_to _ (fun R hR => get_W li (in_addI hR)) (seq_to _ (fun R hR => get_W ln (in_addI hR)) hR'))))))) (hR _ ⟨_, rfl, hkn _ ((hs.set (by decide)).set (by decide)) rfl rfl lm⟩)
                  · have hw : vis A = wr := by have := hI.le; (first | lia | omega)
                    have hA := hI.done hw
                    refine PySem.W.ite_neg (by rw [decide_eq_true_eq]; (first | lia | omega)) ?_
                    exact PySem.W.ite_neg (by decide) (hQ _ hs (by rw [← hA]; exact li) (by rw [← hA]; exact lm))
            case tq4 =>
              refine' XsOk.mono (F' := Rs2 111 W') ?r2 ?r2m
              case r2 =>
                with_reducible refine' xs_cons ?sq5 ?tq5
                case sq5 =>
                  repeat' (first | with_reducible exact ev_int _ _ _ | with_reducible exact ev_str _ _ _ | with_reducible exact ev_none _ _ | with_reducible exact ev_bool _ _ _ | (with_reducible refine' ev_name _ _ ?_ ?_) | (with_reducible refine' ev_binop ?_ ?_) | (with_reducible refine' ev_neg ?_) | (with_reducible refine' ev_cmp ?_ ?_ ?_) | (with_reducible refine' ev_ifexp ?_ ?_ ?_) | (with_reducible refine' ev_list ?_) | (with_reducible refine' ev_tuple ?_) | with_reducible exact es_nil | (with_reducible refine' es_cons ?_ ?_ ?_) | (with_reducible refine' ev_cut ?_ ?_ ?_) | (with_reducible refine' ev_idx ?_ ?_ ?_) | with_reducible exact pt_none | (with_reducible refine' pt_some ?_) | (with_reducible refine' bt_cmp ?_ ?_ ?_) | (with_reducible refine' bt_not ?_) | (with_reducible refine' bt_bool ?_) | with_reducible exact at_and_nil | with_reducible exact at_or_nil | (with_reducible refine' at_and_cons ?_ ?_) | (with_reducible refine' at_or_cons ?_ ?_) | with_reducible exact xs_nil | (with_reducible refine' xs_cons ?_ ?_) | (with_reducible refine' st_assign ?_ ?_ ?_) | (with_reducible refine' st_aug ?_ ?_ ?_) | (with_reducible refine' st_if ?_ ?_ ?_) | (with_reducible refine' st_append ?_ ?_ ?_ ?_ ?_ ?_) | (with_reducible refine' st_augidx ?_ ?_ ?_ ?_) | (with_reducible refine' st_ret ?_) | with_reducible exact st_ret0 | with_reducible exact st_cont | with_reducible exact st_pass | (with_reducible refine' st_while ?_ ?_) | (with_reducible refine' st_for ?_ (as_name ?_) ?_ ?_ ?_) | (with_reducible refine' ev_len (by assumption) ?_ ?_ ?_ ?_ ?_ ?_ ?_ ?_) | (with_reducible refine' ev_chr (by assumption) ?_ ?_ ?_ ?_ ?_ ?_ ?_ ?_) | (with_reducible refine' ev_range (by assumption) ?_ ?_ ?_ ?_ ?_ ?_ ?_ ?_) | (with_reducible refine' ev_abs (by assumption) ?_ ?_ ?_ ?_ ?_ ?_ ?_ ?_) | (with_reducible refine' ev_count _ ?_ ?_ ?_ ?_ ?_) | (with_reducible refine' ev_split _ ?_ ?_ ?_ ?_ ?_) | (with_reducible refine' ev_index _ ?_ ?_ ?_ ?_) | (with_reducible refine' ev_attr (C := 111) (by assumption) ?_ ?_ ?_ ?_ ?_ ?_) | with_reducible exact ts_nil | (with_reducible refine' ts_one ?_) | ((with_reducible show nsIn _ _ _ = _); k_is) | ((with_reducible show plainGet _ _ _ = _); k_is) | ((with_reducible show hasDictIn _ _ = _); k_is) | ((with_reducible show findIn _ _ _ = _); k_is) | ((with_reducible show noGet _ _ = _); k_is) | ((with_reducible show Stores _ _); first | exact Or.inl rfl | exact Or.inr ⟨rfl, rfl⟩) | ((with_reducible show (_ == _) = false); decide) | ((with_reducible show behindInMarks _ _ = _); with_unfolding_all rfl) | ((with_reducible show _ ≤ _); decide) | ((with_reducible show _ = _); rfl) | ((with_reducible show ∀ _, _ = _); intro _; rfl) | ((with_reducible show ∀ _ _, _ = _); intro _ _; rfl) | ((with_reducible show ∀ _ _ _, _ = _); intro _ _ _; rfl) | (with_reducible refine' bt_val ?_ ?_))
                case tq5 =>
                  with_reducible refine' xs_cons ?sq6 ?tq6
                  case sq6 =>
                    repeat' (first | with_reducible exact ev_int _ _ _ | with_reducible exact ev_str _ _ _ | with_reducible exact ev_none _ _ | with_reducible exact ev_bool _ _ _ | (with_reducible refine' ev_name _ _ ?_ ?_) | (with_reducible refine' ev_binop ?_ ?_) | (with_reducible refine' ev_neg ?_) | (with_reducible refine' ev_cmp ?_ ?_ ?_) | (with_reducible refine' ev_ifexp ?_ ?_ ?_) | (with_reducible refine' ev_list ?_) | (with_reducible refine' ev_tuple ?_) | with_reducible exact es_nil | (with_reducible refine' es_cons ?_ ?_ ?_) | (with_reducible refine' ev_cut ?_ ?_ ?_) | (with_reducible refine' ev_idx ?_ ?_ ?_) | with_reducible exact pt_none | (with_reducible refine' pt_some ?_) | (with_reducible refine' bt_cmp ?_ ?_ ?_) | (with_reducible refine' bt_not ?_) | (with_reducible refine' bt_bool ?_) | with_reducible exact at_and_nil | with_reducible exact at_or_nil | (with_reducible refine' at_and_cons ?_ ?_) | (with_reducible refine' at_or_cons ?_ ?_) | with_reducible exact xs_nil | (with_reducible refine' xs_cons ?_ ?_) | (with_reducible refine' st_assign ?_ ?_ ?_) | (with_reducible refine' st_aug ?_ ?_ ?_) | (with_reducible refine' st_if ?_ ?_ ?_) | (with_reducible refine' st_append ?_ ?_ ?_ ?_ ?_ ?_) | (with_reducible refine' st_augidx ?_ ?_ ?_ ?_) | (with_reducible refine' st_ret ?_) | with_reducible exact st_ret0 | with_reducible exact st_cont | with_reducible exact st_pass | (with_reducible refine' st_while ?_ ?_) | (with_reducible refine' st_for ?_ (as_name ?_) ?_ ?_ ?_) | (with_reducible refine' ev_len (by assumption) ?_ ?_ ?_ ?_ ?_ ?_ ?_ ?_) | (with_reducible refine' ev_chr (by assumption) ?_ ?_ ?_ ?_ ?_ ?_ ?_ ?_) | (with_reducible refine' ev_range (by assumption) ?_ ?_ ?_ ?_ ?_ ?_ ?_ ?_) | (with_reducible refine' ev_abs (by assumption) ?_ ?_ ?_ ?_ ?_ ?_ ?_ ?_) | (with_reducible refine' ev_count _ ?_ ?_ ?_ ?_ ?_) | (with_reducible refine' ev_split _ ?_ ?_ ?_ ?_ ?_) | (with_reducible refine' ev_index _ ?_ ?_ ?_ ?_) | (with_reducible refine' ev_attr (C := 111) (by assumption) ?_ ?_ ?_ ?_ ?_ ?_) | with_reducible exact ts_nil | (with_reducible refine' ts_one ?_) | ((with_reducible show nsIn _ _ _ = _); k_is) | ((with_reducible show plainGet _ _ _ = _); k_is) | ((with_reducible show hasDictIn _ _ = _); k_is) | ((with_reducible show findIn _ _ _ = _); k_is) | ((with_reducible show noGet _ _ = _); k_is) | ((with_reducible show Stores _ _); first | exact Or.inl rfl | exact Or.inr ⟨rfl, rfl⟩) | ((with_reducible show (_ == _) = false); decide) | ((with_reducible show behindInMarks _ _ = _); with_unfolding_all rfl) | ((with_reducible show _ ≤ _); decide) | ((with_reducible show _ = _); rfl) | ((with_reducible show ∀ _, _ = _); intro _; rfl) | ((with_reducible show ∀ _ _, _ = _); intro _ _; rfl) | ((with_reducible show ∀ _ _ _, _ = _); intro _ _ _; rfl) | (with_reducible refine' bt_val ?_ ?_))
                  case tq6 =>
                    with_reducible refine' xs_cons ?sq7 ?tq7
                    case sq7 =>
                      refine' ExOk.mono (F' := IfS) ?iff ?iffm
                      case iff => repeat' (first | with_reducible exact ev_int _ _ _ | with_reducible exact ev_str _ _ _ | with_reducible exact ev_none _ _ | with_reducible exact ev_bool _ _ _ | (with_reducible refine' ev_name _ _ ?_ ?_) | (with_reducible refine' ev_binop ?_ ?_) | (with_reducible refine' ev_neg ?_) | (with_reducible refine' ev_cmp ?_ ?_ ?_) | (with_reducible refine' ev_ifexp ?_ ?_ ?_) | (with_reducible refine' ev_list ?_) | (with_reducible refine' ev_tuple ?_) | with_reducible exact es_nil | (with_reducible refine' es_cons ?_ ?_ ?_) | (with_reducible refine' ev_cut ?_ ?_ ?_) | (with_reducible refine' ev_idx ?_ ?_ ?_) | with_reducible exact pt_none | (with_reducible refine' pt_some ?_) | (with_reducible refine' bt_cmp ?_ ?_ ?_) | (with_reducible refine' bt_not ?_) | (with_reducible refine' bt_bool ?_) | with_reducible exact at_and_nil | with_reducible exact at_or_nil | (with_reducible refine' at_and_cons ?_ ?_) | (with_reducible refine' at_or_cons ?_ ?_) | with_reducible exact xs_nil | (with_reducible refine' xs_cons ?_ ?_) | (with_reducible refine' st_assign ?_ ?_ ?_) | (with_reducible refine' st_aug ?_ ?_ ?_) | (with_reducible refine' st_if ?_ ?_ ?_) | (with_reducible refine' st_append ?_ ?_ ?_ ?_ ?_ ?_) | (with_reducible refine' st_augidx ?_ ?_ ?_ ?_) | (with_reducible refine' st_ret ?_) | with_reducible exact st_ret0 | with_reducible exact st_cont | with_reducible exact st_pass | (with_reducible refine' st_while ?_ ?_) | (with_reducible refine' st_for ?_ (as_name ?_) ?_ ?_ ?_) | (with_reducible refine' ev_len (by assumption) ?_ ?_ ?_ ?_ ?_ ?_ ?_ ?_) | (with_reducible refine' ev_chr (by assumption) ?_ ?_ ?_ ?_ ?_ ?_ ?_ ?_) | (with_reducible refine' ev_range (by assumption) ?_ ?_ ?_ ?_ ?_ ?_ ?_ ?_) | (with_reducible refine' ev_abs (by assumption) ?_ ?_ ?_ ?_ ?_ ?_ ?_ ?_) | (with_reducible refine' ev_count _ ?_ ?_ ?_ ?_ ?_) | (with_reducible refine' ev_split _ ?_ ?_ ?_ ?_ ?_) | (with_reducible refine' ev_index _ ?_ ?_ ?_ ?_) | (with_reducible refine' ev_attr (C := 111) (by assumption) ?_ ?_ ?_ ?_ ?_ ?_) | with_reducible exact ts_nil | (with_reducible refine' ts_one ?_) | ((with_reducible show nsIn _ _ _ = _); k_is) | ((with_reducible show plainGet _ _ _ = _); k_is) | ((with_reducible show hasDictIn _ _ = _); k_is) | ((with_reducible show findIn _ _ _ = _); k_is) | ((with_reducible show noGet _ _ = _); k_is) | ((with_reducible show Stores _ _); first | exact Or.inl rfl | exact Or.inr ⟨rfl, rfl⟩) | ((with_reducible show (_ == _) = false); decide) | ((with_reducible show behindInMarks _ _ = _); with_unfolding_all rfl) | ((with_reducible show _ ≤ _); decide) | ((with_reducible show _ = _); rfl) | ((with_reducible show ∀ _, _ = _); intro _; rfl) | ((with_reducible show ∀ _ _, _ = _); intro _ _; rfl) | ((with_reducible show ∀ _ _ _, _ = _); intro _ _ _; rfl) | (with_reducible refine' bt_val ?_ ?_))
                      case iffm =>
                        intro σ Q hh
                        refine hide fun Gh kh => ?_
                        obtain ⟨m, X, Y, hm, hX, hY, lm, l1, l2, hQ⟩ := hh
                        refine kh ?_
                        clear kh Gh
                        refine get_W lm ⟨by rw [mkS_len]; (first | lia | omega), ?_⟩
                        rw [mkS_len]
                        cases m with
                        | nil =>
                          exact PySem.W.ite_neg (by simp) (hQ _ (SameBut.refl _ _) (by rw [post, List.append_nil]; exact l1) l2)
                        | cons k r =>
                          simp only [List.length_cons] at hm
                          refine PySem.W.ite_pos (by simp) ?_
                          refine seq_to ⟨σ.loc.set "line1" (.str (mkS (X ++ [1]))), σ.H⟩ (fun R hR => get_W l1 (bin_addS (x := mkS X) (by rw [mkS_len, sizeLine_eq]; simp only [ofS1, mkS_len, List.length_cons, List.length_nil]; (first | lia | omega)) (by rw [ofS1, mkS_append]; exact hR))) ?_
                          refine seq_to ⟨(σ.loc.set "line1" (.str (mkS (X ++ [1])))).set "line2" (.str (mkS (([0] ++ k :: r) ++ Y))), σ.H⟩ (fun R hR => ?_) (hQ _ (((SameBut.refl _ _).set (by decide)).set (by decide)) rfl rfl)
                          rw [ofS0]
                          refine get_W lm (bin_addS (by rw [mkS_len, mkS_len, sizeLine_eq]; simp only [List.length_cons, List.length_nil]; (first | lia | omega)) (get_W l2 ?_))
                          rw [mkS_append]
                          refine bin_addS (by rw [mkS_len, mkS_len, sizeLine_eq, List.length_append]; simp only [List.length_cons, List.length_nil]; (first | lia | omega)) ?_
                          rw [mkS_append]
                          exact hR
                    case tq7 =>
                      with_reducible refine' xs_cons ?sq8 ?tq8
                      case sq8 =>
                        repeat' (first | with_reducible exact ev_int _ _ _ | with_reducible exact ev_str _ _ _ | with_reducible exact ev_none _ _ | with_reducible exact ev_bool _ _ _ | (with_reducible refine' ev_name _ _ ?_ ?_) | (with_reducible refine' ev_binop ?_ ?_) | (with_reducible refine' ev_neg ?_) | (with_reducible refine' ev_cmp ?_ ?_ ?_) | (with_reducible refine' ev_ifexp ?_ ?_ ?_) | (with_reducible refine' ev_list ?_) | (with_reducible refine' ev_tuple ?_) | with_reducible exact es_nil | (with_reducible refine' es_cons ?_ ?_ ?_) | (with_reducible refine' ev_cut ?_ ?_ ?_) | (with_reducible refine' ev_idx ?_ ?_ ?_) | with_reducible exact pt_none | (with_reducible refine' pt_some ?_) | (with_reducible refine' bt_cmp ?_ ?_ ?_) | (with_reducible refine' bt_not ?_) | (with_reducible refine' bt_bool ?_) | with_reducible exact at_and_nil | with_reducible exact at_or_nil | (with_reducible refine' at_and_cons ?_ ?_) | (with_reducible refine' at_or_cons ?_ ?_) | with_reducible exact xs_nil | (with_reducible refine' xs_cons ?_ ?_) | (with_reducible refine' st_assign ?_ ?_ ?_) | (with_reducible refine' st_aug ?_ ?_ ?_) | (with_reducible refine' st_if ?_ ?_ ?_) | (with_reducible refine' st_append ?_ ?_ ?_ ?_ ?_ ?_) | (with_reducible refine' st_augidx ?_ ?_ ?_ ?_) | (with_reducible refine' st_ret ?_) | with_reducible exact st_ret0 | with_reducible exact st_cont | with_reducible exact st_pass | (with_reducible refine' st_while ?_ ?_) | (with_reducible refine' st_for ?_ (as_name ?_) ?_ ?_ ?_) | (with_reducible refine' ev_len (by assumption) ?_ ?_ ?_ ?_ ?_ ?_ ?_ ?_) | (with_reducible refine' ev_chr (by assumption) ?_ ?_ ?_ ?_ ?_ ?_ ?_ ?_) | (with_reducible refine' ev_range (by assumption) ?_ ?_ ?_ ?_ ?_ ?_ ?_ ?_) | (with_reducible refine' ev_abs (by assumption) ?_ ?_ ?_ ?_ ?_ ?_ ?_ ?_) | (with_reducible refine' ev_count _ ?_ ?_ ?_ ?_ ?_) | (with_reducible refine' ev_split _ ?_ ?_ ?_ ?_ ?_) | (with_reducible refine' ev_index _ ?_ ?_ ?_ ?_) | (with_reducible refine' ev_attr (C := 111) (by assumption) ?_ ?_ ?_ ?_ ?_ ?_) | with_reducible exact ts_nil | (with_reducible refine' ts_one ?_) | ((with_reducible show nsIn _ _ _ = _); k_is) | ((with_reducible show plainGet _ _ _ = _); k_is) | ((with_reducible show hasDictIn _ _ = _); k_is) | ((with_reducible show findIn _ _ _ = _); k_is) | ((with_reducible show noGet _ _ = _); k_is) | ((with_reducible show Stores _ _); first | exact Or.inl rfl | exact Or.inr ⟨rfl, rfl⟩) | ((with_reducible show (_ == _) = false); decide) | ((with_reducible show behindInMarks _ _ = _); with_unfolding_all rfl) | ((with_reducible show _ ≤ _); decide) | ((with_reducible show _ = _); rfl) | ((with_reducible show ∀ _, _ = _); intro _; rfl) | ((with_reducible show ∀ _ _, _ = _); intro _ _; rfl) | ((with_reducible show ∀ _ _ _, _ = _); intro _ _ _; rfl) | (with_reducible refine' bt_val ?_ ?_))
                      case tq8 =>
                        with_reducible refine' xs_cons ?sq9 ?tq9
                        case sq9 =>
                          refine' st_meth (C := 111) (f := 65) G ?m1 ?m2 ?m3 ?m4 ?m5 ?m6 (hop' _ _ _ G) ?m7 ?m8 ?m9 ?m10 ?m11
                          case m1 => repeat' (first | with_reducible exact ev_int _ _ _ | with_reducible exact ev_str _ _ _ | with_reducible exact ev_none _ _ | with_reducible exact ev_bool _ _ _ | (with_reducible refine' ev_name _ _ ?_ ?_) | (with_reducible refine' ev_binop ?_ ?_) | (with_reducible refine' ev_neg ?_) | (with_reducible refine' ev_cmp ?_ ?_ ?_) | (with_reducible refine' ev_ifexp ?_ ?_ ?_) | (with_reducible refine' ev_list ?_) | (with_reducible refine' ev_tuple ?_) | with_reducible exact es_nil | (with_reducible refine' es_cons ?_ ?_ ?_) | (with_reducible refine' ev_cut ?_ ?_ ?_) | (with_reducible refine' ev_idx ?_ ?_ ?_) | with_reducible exact pt_none | (with_reducible refine' pt_some ?_) | (with_reducible refine' bt_cmp ?_ ?_ ?_) | (with_reducible refine' bt_not ?_) | (with_reducible refine' bt_bool ?_) | with_reducible exact at_and_nil | with_reducible exact at_or_nil | (with_reducible refine' at_and_cons ?_ ?_) | (with_reducible refine' at_or_cons ?_ ?_) | with_reducible exact xs_nil | (with_reducible refine' xs_cons ?_ ?_) | (with_reducible refine' st_assign ?_ ?_ ?_) | (with_reducible refine' st_aug ?_ ?_ ?_) | (with_reducible refine' st_if ?_ ?_ ?_) | (with_reducible refine' st_append ?_ ?_ ?_ ?_ ?_ ?_) | (with_reducible refine' st_augidx ?_ ?_ ?_ ?_) | (with_reducible refine' st_ret ?_) | with_reducible exact st_ret0 | with_reducible exact st_cont | with_reducible exact st_pass | (with_reducible refine' st_while ?_ ?_) | (with_reducible refine' st_for ?_ (as_name ?_) ?_ ?_ ?_) | (with_reducible refine' ev_len (by assumption) ?_ ?_ ?_ ?_ ?_ ?_ ?_ ?_) | (with_reducible refine' ev_chr (by assumption) ?_ ?_ ?_ ?_ ?_ ?_ ?_ ?_) | (with_reducible refine' ev_range (by assumption) ?_ ?_ ?_ ?_ ?_ ?_ ?_ ?_) | (with_reducible refine' ev_abs (by assumption) ?_ ?_ ?_ ?_ ?_ ?_ ?_ ?_) | (with_reducible refine' ev_count _ ?_ ?_ ?_ ?_ ?_) | (with_reducible refine' ev_split _ ?_ ?_ ?_ ?_ ?_) | (with_reducible refine' ev_index _ ?_ ?_ ?_ ?_) | (with_reducible refine' ev_attr (C := 111) (by assumption) ?_ ?_ ?_ ?_ ?_ ?_) | with_reducible exact ts_nil | (with_reducible refine' ts_one ?_) | ((with_reducible show nsIn _ _ _ = _); k_is) | ((with_reducible show plainGet _ _ _ = _); k_is) | ((with_reducible show hasDictIn _ _ = _); k_is) | ((with_reducible show findIn _ _ _ = _); k_is) | ((with_reducible show noGet _ _ = _); k_is) | ((with_reducible show Stores _ _); first | exact Or.inl rfl | exact Or.inr ⟨rfl, rfl⟩) | ((with_reducible show (_ == _) = false); decide) | ((with_reducible show behindInMarks _ _ = _); with_unfolding_all rfl) | ((with_reducible show _ ≤ _); decide) | ((with_reducible show _ = _); rfl) | ((with_reducible show ∀ _, _ = _); intro _; rfl) | ((with_reducible show ∀ _ _, _ = _); intro _ _; rfl) | ((with_reducible show ∀ _ _ _, _ = _); intro _ _ _; rfl) | (with_reducible refine' bt_val ?_ ?_))
                          case m2 => repeat' (first | with_reducible exact ev_int _ _ _ | with_reducible exact ev_str _ _ _ | with_reducible exact ev_none _ _ | with_reducible exact ev_bool _ _ _ | (with_reducible refine' ev_name _ _ ?_ ?_) | (with_reducible refine' ev_binop ?_ ?_) | (with_reducible refine' ev_neg ?_) | (with_reducible refine' ev_cmp ?_ ?_ ?_) | (with_reducible refine' ev_ifexp ?_ ?_ ?_) | (with_reducible refine' ev_list ?_) | (with_reducible refine' ev_tuple ?_) | with_reducible exact es_nil | (with_reducible refine' es_cons ?_ ?_ ?_) | (with_reducible refine' ev_cut ?_ ?_ ?_) | (with_reducible refine' ev_idx ?_ ?_ ?_) | with_reducible exact pt_none | (with_reducible refine' pt_some ?_) | (with_reducible refine' bt_cmp ?_ ?_ ?_) | (with_reducible refine' bt_not ?_) | (with_reducible refine' bt_bool ?_) | with_reducible exact at_and_nil | with_reducible exact at_or_nil | (with_reducible refine' at_and_cons ?_ ?_) | (with_reducible refine' at_or_cons ?_ ?_) | with_reducible exact xs_nil | (with_reducible refine' xs_cons ?_ ?_) | (with_reducible refine' st_assign ?_ ?_ ?_) | (with_reducible refine' st_aug ?_ ?_ ?_) | (with_reducible refine' st_if ?_ ?_ ?_) | (with_reducible refine' st_append ?_ ?_ ?_ ?_ ?_ ?_) | (with_reducible refine' st_augidx ?_ ?_ ?_ ?_) | (with_reducible refine' st_ret ?_) | with_reducible exact st_ret0 | with_reducible exact st_cont | with_reducible exact st_pass | (with_reducible refine' st_while ?_ ?_) | (with_reducible refine' st_for ?_ (as_name ?_) ?_ ?_ ?_) | (with_reducible refine' ev_len (by assumption) ?_ ?_ ?_ ?_ ?_ ?_ ?_ ?_) | (with_reducible refine' ev_chr (by assumption) ?_ ?_ ?_ ?_ ?_ ?_ ?_ ?_) | (with_reducible refine' ev_range (by assumption) ?_ ?_ ?_ ?_ ?_ ?_ ?_ ?_) | (with_reducible refine' ev_abs (by assumption) ?_ ?_ ?_ ?_ ?_ ?_ ?_ ?_) | (with_reducible refine' ev_count _ ?_ ?_ ?_ ?_ ?_) | (with_reducible refine' ev_split _ ?_ ?_ ?_ ?_ ?_) | (with_reducible refine' ev_index _ ?_ ?_ ?_ ?_) | (with_reducible refine' ev_attr (C := 111) (by assumption) ?_ ?_ ?_ ?_ ?_ ?_) | with_reducible exact ts_nil | (with_reducible refine' ts_one ?_) | ((with_reducible show nsIn _ _ _ = _); k_is) | ((with_reducible show plainGet _ _ _ = _); k_is) | ((with_reducible show hasDictIn _ _ = _); k_is) | ((with_reducible show findIn _ _ _ = _); k_is) | ((with_reducible show noGet _ _ = _); k_is) | ((with_reducible show Stores _ _); first | exact Or.inl rfl | exact Or.inr ⟨rfl, rfl⟩) | ((with_reducible show (_ == _) = false); decide) | ((with_reducible show behindInMarks _ _ = _); with_unfolding_all rfl) | ((with_reducible show _ ≤ _); decide) | ((with_reducible show _ = _); rfl) | ((with_reducible show ∀ _, _ = _); intro _; rfl) | ((with_reducible show ∀ _ _, _ = _); intro _ _; rfl) | ((with_reducible show ∀ _ _ _, _ = _); intro _ _ _; rfl) | (with_reducible refine' bt_val ?_ ?_))
                          case m3 => k_is
                          case m4 => k_is
                          case m5 => k_is
                          case m6 => k_is
                          case m7 => rfl
                          case m8 => rfl
                          case m9 => rfl
                          case m10 => rfl
                          case m11 => rfl
                        case tq9 =>
                          repeat' (first | with_reducible exact ev_int _ _ _ | with_reducible exact ev_str _ _ _ | with_reducible exact ev_none _ _ | with_reducible exact ev_bool _ _ _ | (with_reducible refine' ev_name _ _ ?_ ?_) | (with_reducible refine' ev_binop ?_ ?_) | (with_reducible refine' ev_neg ?_) | (with_reducible refine' ev_cmp ?_ ?_ ?_) | (with_reducible refine' ev_ifexp ?_ ?_ ?_) | (with_reducible refine' ev_list ?_) | (with_reducible refine' ev_tuple ?_) | with_reducible exact es_nil | (with_reducible refine' es_cons ?_ ?_ ?_) | (with_reducible refine' ev_cut ?_ ?_ ?_) | (with_reducible refine' ev_idx ?_ ?_ ?_) | with_reducible exact pt_none | (with_reducible refine' pt_some ?_) | (with_reducible refine' bt_cmp ?_ ?_ ?_) | (with_reducible refine' bt_not ?_) | (with_reducible refine' bt_bool ?_) | with_reducible exact at_and_nil | with_reducible exact at_or_nil | (with_reducible refine' at_and_cons ?_ ?_) | (with_reducible refine' at_or_cons ?_ ?_) | with_reducible exact xs_nil | (with_reducible refine' xs_cons ?_ ?_) | (with_reducible refine' st_assign ?_ ?_ ?_) | (with_reducible refine' st_aug ?_ ?_ ?_) | (with_reducible refine' st_if ?_ ?_ ?_) | (with_reducible refine' st_append ?_ ?_ ?_ ?_ ?_ ?_) | (with_reducible refine' st_augidx ?_ ?_ ?_ ?_) | (with_reducible refine' st_ret ?_) | with_reducible exact st_ret0 | with_reducible exact st_cont | with_reducible exact st_pass | (with_reducible refine' st_while ?_ ?_) | (with_reducible refine' st_for ?_ (as_name ?_) ?_ ?_ ?_) | (with_reducible refine' ev_len (by assumption) ?_ ?_ ?_ ?_ ?_ ?_ ?_ ?_) | (with_reducible refine' ev_chr (by assumption) ?_ ?_ ?_ ?_ ?_ ?_ ?_ ?_) | (with_reducible refine' ev_range (by assumption) ?_ ?_ ?_ ?_ ?_ ?_ ?_ ?_) | (with_reducible refine' ev_abs (by assumption) ?_ ?_ ?_ ?_ ?_ ?_ ?_ ?_) | (with_reducible refine' ev_count _ ?_ ?_ ?_ ?_ ?_) | (with_reducible refine' ev_split _ ?_ ?_ ?_ ?_ ?_) | (with_reducible refine' ev_index _ ?_ ?_ ?_ ?_) | (with_reducible refine' ev_attr (C := 111) (by assumption) ?_ ?_ ?_ ?_ ?_ ?_) | with_reducible exact ts_nil | (with_reducible refine' ts_one ?_) | ((with_reducible show nsIn _ _ _ = _); k_is) | ((with_reducible show plainGet _ _ _ = _); k_is) | ((with_reducible show hasDictIn _ _ = _); k_is) | ((with_reducible show findIn _ _ _ = _); k_is) | ((with_reducible show noGet _ _ = _); k_is) | ((with_reducible show Stores _ _); first | exact Or.inl rfl | exact Or.inr ⟨rfl, rfl⟩) | ((with_reducible show (_ == _) = false); decide) | ((with_reducible show behindInMarks _ _ = _); with_unfolding_all rfl) | ((with_reducible show _ ≤ _); decide) | ((with_reducible show _ = _); rfl) | ((with_reducible show ∀ _, _ = _); intro _; rfl) | ((with_reducible show ∀ _ _, _ = _); intro _ _; rfl) | ((with_reducible show ∀ _ _ _, _ = _); intro _ _ _; rfl) | (with_reducible refine' bt_val ?_ ?_))
              case r2m =>
                intro σ Q hh
                refine hide fun Gh kh => ?_
                obtain ⟨fs, a, xs, line, m, X, Y, hmo, hXY, hxs, hno, hH, lt, li, lm, lself, ld, ll, hW⟩ := hh
                have hXY' := hXY
                rw [List.length_append] at hXY'
                refine kh ?_
                clear kh Gh
                refine seq_to ⟨σ.loc.set "line1" (.str (mkS X)), σ.H⟩ (fun R hR => get_W lt (get_W li ⟨_, rfl, cut_S (by rw [mkS_len, sizeLine_eq]; (first | lia | omega)) (by rw [scut_mk, cut_hi, List.take_left]; exact hR)⟩)) ?_
                refine seq_to ⟨(σ.loc.set "line1" (.str (mkS X))).set "line2" (.str (mkS Y)), σ.H⟩ (fun R hR => get_W lt (get_W li ⟨_, rfl, cut_S (by rw [mkS_len, sizeLine_eq]; (first | lia | omega)) (by rw [scut_mk, cut_lo, List.drop_left]; exact hR)⟩)) ?_
                refine seq_ex (fun σ₂ => σ₂.H = σ.H ∧ σ₂.loc "data_list" = some (.ref a) ∧ σ₂.loc "line_num" = some line ∧ σ₂.loc "self" = some (.obj 111 fs) ∧ σ₂.loc "line1" = some (.str (mkS (X ++ post m))) ∧ σ₂.loc "line2" = some (.str (mkS (pre m ++ Y)))) (fun R hR => ⟨m, X, Y, hmo, by (first | lia | omega), by (first | lia | omega), lm, rfl, rfl, fun σ₂ hs2 k1 k2 => hR _ ⟨hs2.1, hs2.get (by decide) ld, hs2.get (by decide) ll, hs2.get (by decide) lself, k1, k2⟩⟩) (fun σ₂ h => ?_)
                obtain ⟨hH2, ld2, ll2, lself2, k1, k2⟩ := h
                rw [← hH2] at hW hH
                refine seq_to ⟨σ₂.loc, σ₂.H.set a ⟨true, xs ++ [.tup [line, .str (mkS (X ++ post m))]]⟩⟩ (fun R hR => get_W ld2 ⟨a, _, rfl, hH, get_W ll2 (get_W k1 ⟨by rw [sizeLine_eq]; simp, xs, hH, by rw [sizeLine_eq]; (first | lia | omega), hR⟩)⟩) ?_
                refine get_W lself2 ⟨fs, rfl, hno, get_W ld2 ?_⟩
                rw [ofSg]
                exact get_W k2 (hmono _ _ _ _ (fun r H₃ h => ⟨h.1, h.2 _⟩) hW)
    case r1m =>
      intro σ Q hh
      refine hide fun Gh kh => ?_
      obtain ⟨fs, a, xs, line, T, wr, hv, hPT, hL, hxs, hno, hH, lt, ls, lx, lself, ld, ll, hW⟩ := hh
      have h0 : SameBut ["i", "n", "mark"] σ ⟨((σ.loc.set "i" (.int 0)).set "n" (.int 0)).set "mark" (.str (Str.ofString "")), σ.H⟩ := (((SameBut.refl ["i", "n", "mark"] σ).set (x := "i") (by decide)).set (x := "n") (by decide)).set (x := "mark") (by decide)
      refine kh ?_
      clear kh Gh
      refine seq_to _ (fun R hR => hR) (seq_to _ (fun R hR => hR) (seq_to _ (fun R hR => hR) ?_))
      refine seq_ex (fun σ₁ => SameBut ["i", "n", "mark"] σ σ₁ ∧ σ₁.loc "i" = some (.int ((flat (cutA wr T)).length : Nat)) ∧ σ₁.loc "mark" = some (.str (mkS (mkF [] (cutA wr T))))) (fun R hR => ⟨T, wr, hv, hPT, hL, rfl, rfl, by rw [ofSe]; rfl, lx, ls, lt, fun σ₁ hs hi hmk => hR _ ⟨SameBut.trans h0 hs, hi, hmk⟩⟩) (fun σ₁ h => ?_)
      obtain ⟨hs, hi, hmk⟩ := h
      have e : flat T = flat (cutA wr T) ++ flat (cutB wr T) := by rw [← flat_app, cut_app]
      exact ⟨fs, a, xs, line, mkF [] (cutA wr T), flat (cutA wr T), flat (cutB wr T), mkF_len [] _ (by simp), by rw [← e]; exact hL, hxs, hno, by rw [hs.1]; exact hH, by rw [← e]; exact hs.get (by decide) lt, hi, hmk, hs.get (by decide) lself, hs.get (by decide) ld, hs.get (by decide) ll, by rw [hs.1]; exact hW⟩
  case hw =>
    clear S hv G
    intro Q hQ
    refine hide fun Gh kh => ?_
    obtain ⟨fs, a, xs, line, t, m, B, wr, rfl, hwc, hno, hH, htr, hm, hPW, hcl, hvis, hlen, hw1, hw2, hxl, hQ⟩ := hQ
    have hAll := flat_preT m B hm
    have hPA := PW_preT m B hm hPW
    have hpl := pre_len m hm
    have hL : (pre m ++ flat B).length ≤ 6002 := by rw [List.length_append]; (first | lia | omega)
    refine kh ?_
    clear kh Gh
    refine ⟨rfl, ?_⟩
    refine seq_or (fun σ => t = true ∧ σ = ⟨argLoc ["self", "data_list", "line_num", "text"] [.obj 111 fs, .ref a, line, .str (mkS (pre m ++ flat B))], H⟩) (fun R h1 h2 => ⟨a, xs, line, _, t, by (first | lia | omega), htr, hH, rfl, rfl, rfl, fun ht => h2 _ _ (by subst ht; exact hQ), fun ht => h1 _ ⟨ht, rfl⟩⟩) ?_
    · rintro _ ⟨rfl, rfl⟩
      rw [if_pos rfl] at hQ
      refine seq_to _ (fun R hR => get_W (p := .str (mkS (pre m ++ flat B))) rfl (len_S (by rw [mkS_len]; (first | lia | omega)) hR)) (seq_to _ (fun R hR => get_W (p := .obj 111 fs) rfl ⟨fs, _, rfl, hwc, hR⟩) ?_)
      rw [mkS_len]
      refine seq_or (fun σ => wr < vis B ∧ σ = ⟨((argLoc ["self", "data_list", "line_num", "text"] [.obj 111 fs, .ref a, line, .str (mkS (pre m ++ flat B))]).set "size" (.int ((pre m ++ flat B).length : Nat))).set "max" (.int (wr : Int)), H⟩) (fun R h1 h2 => ⟨a, xs, line, preT m ++ B, wr, by (first | lia | omega), hPA, by rw [mkF_preT m B hm]; exact hcl, by rw [hAll]; exact hL, hH, rfl, rfl, by rw [hAll]; rfl, by rw [hAll]; rfl, rfl, fun hvw => h2 _ _ ?_, fun hvw => h1 _ ⟨by rw [vis_preT] at hvw; exact hvw, rfl⟩⟩) ?_
      · rw [vis_preT] at hvw
        rw [hAll]
        cases v with
        | zero => exact hQ
        | succ v => unfold pcs at hQ; rw [if_pos hvw] at hQ; exact hQ
      · rintro _ ⟨hvw, rfl⟩
        rcases hrec with hv0 | ⟨u, hvu, hWu⟩
        · (first | lia | omega)
        subst hvu hWu
        unfold pcs at hQ
        rw [if_neg (by (first | lia | omega))] at hQ
        have hlB : (flat (cutB wr B)).length ≤ (flat B).length := by
          have h1 : (flat (cutA wr B ++ cutB wr B)).length = (flat B).length := by rw [cut_app]
          rw [flat_app, List.length_append] at h1; (first | lia | omega)
        have hPAB : PW m (cutA wr B) ∧ PW (mkF m (cutA wr B)) (cutB wr B) := by rw [← PW_app, cut_app]; exact hPW
        have hclB : mkF (mkF m (cutA wr B)) (cutB wr B) = [] := by rw [← mkF_app, cut_app]; exact hcl
        have hvB := vis_cutB wr B (by (first | lia | omega))
        have hisM := mkF_isMk m _ hPAB.1 hm
        refine ⟨fs, a, xs, line, preT m ++ B, wr, by rw [vis_preT]; (first | lia | omega), hPA, by rw [hAll]; exact hL, by (first | lia | omega), hno, hH, by rw [hAll]; rfl, by rw [hAll]; rfl, rfl, rfl, rfl, rfl, ?_⟩
        rw [cutA_preT m B wr hw1, flat_preT m _ hm, mkF_preT m _ hm, cutB_preT m B wr hw1]
        refine ⟨fs, a, xs ++ [.tup [line, .str (mkS (pre m ++ flat (cutA wr B) ++ post (mkF m (cutA wr B))))]], .str (mkS [62]), true, mkF m (cutA wr B), cutB wr B, wr, rfl, hwc, hno, LH.set_self _ _ _, fun H R h => ⟨by rw [mkS_len]; decide, by rw [mkS_len]; exact h⟩, hisM, hPAB.2, hclB, by (first | lia | omega), by (first | lia | omega), hw1, hw2, by rw [List.length_append]; simp only [List.length_cons, List.length_nil]; (first | lia | omega), rfl, fun _ => ?_⟩
        rw [if_pos rfl, LH.set_set, List.append_assoc, rowsOf_gt]
        exact hQ
theorem split_line (w : World) : ∀ v, ∀ (h₀ : Heap) (prog : Program) (env : Env), Gr (Mine.kcap.heap_1 w.params) h₀ → ∀ loc Z H s ps vs, Sat h₀ Z env loc H s.heap → VRs Z ps vs → MOp h₀ prog w (8 + v + 1) env loc Z H s (call (.ref 65) vs) (SpW 111 v ps H)
  | 0 => split_gen w 8 0 (fun _ _ _ => False) (fun _ _ _ _ _ _ _ _ _ _ _ _ _ _ _ _ _ f _ => f.elim) (fun _ _ _ _ _ f => f) (.inl rfl)
  | v + 1 => split_gen w (8 + v + 1) (v + 1) (SpW 111 v) (split_line w v) (fun _ _ _ _ h f => SpW.mono h f) (.inr ⟨v, rfl, rfl⟩)
/-- x._split_line(..), a statement -/
theorem st_split (w : World) (v : Nat) {h₀ : Heap} {prog : Program} {n : Nat} {env : Env} {o : Expr} {apos p pos : Pos} {e : Expr} {rest : List Expr} {fo : ET} {F : EsT} {pl : Sem Bool} (G : Gr (Mine.kcap.heap_1 w.params) h₀) (hn : 8 + v + 1 ≤ n) (ho : EvOk h₀ prog w n env o fo) (hes : EsOk h₀ prog w n env (e :: rest) F)
    (hm : eval (.Call (.Attribute o (Str.ofString "_split_line") apos) (e :: rest) [] p) env = (do
      let ov ← eval o env
      standAt apos.atName
      let (f, first) ← holding [ov] (getMethod ov (Str.ofString "_split_line") pl)
      callWith p f first (backTo p (starEach (e :: rest) env)) []))
    (hs : starEach (e :: rest) env = (false, eval e env) :: starEach rest env) (hp : (backTo p (starEach rest env)).any (·.1) = false) (hi : interactive env = false) (hw : swapsWith (.Call (.Attribute o (Str.ofString "_split_line") apos) (e :: rest) [] p) none pos.line env = pure false) :
    ExOk h₀ prog w n env (.Expr (.Call (.Attribute o (Str.ofString "_split_line") apos) (e :: rest) [] p) pos)
      (fun σ Q => fo σ fun a H₁ => ∃ fs, a = .obj 111 fs ∧ fs.lookup "_split_line" = none ∧ F ⟨σ.loc, H₁⟩ fun ps H₂ => SpW 111 v (a :: ps) H₂ fun r H₃ => r = .none ∧ Q .next ⟨σ.loc, H₃⟩) := by
  refine' st_meth (C := 111) (f := 65) G ho hes ?m3 ?m4 ?m5 ?m6 (fun loc Z H s ps vs S hv A Q Q' E rm f q => split_line w v h₀ prog env G loc Z H s ps vs S hv A Q Q' E (rm.le hn) f q) hm hs hp hi hw
  case m3 => k_is
  case m4 => k_is
  case m5 => k_is
  case m6 => k_is
end Mine
namespace Mine
set_option maxHeartbeats 4000000 in
theorem html_make {w : World} {h₀ : Heap} {prog : Program} {env : Env} {A : Around} {Z : Zm} {loc : Loc} {H : LH} {s : Shared} {v1 v2 : Value} {Q' : Value → Shared → Prop} {E : Value → Shared → Prop} {n : Nat}
    (G : Gr (Mine.kcap.heap_1 w.params) h₀) (rm : Rm (n + 2) A) (S : Sat h₀ Z env loc H s.heap)
    (hq : ∀ x dx es k s', Kp s s' → s.heap.get? x = none → s.heap.get? dx = none → x ≠ dx → s'.heap.get? x = some (instObj 111 dx) → s'.heap.get? dx = some (dictOf es k) → (∃ h1 h2 h3 h4 t1 t2 t3 t4, es = [⟨h1, .str (Str.ofString "_tabsize") t1, v1⟩, ⟨h2, .str (Str.ofString "_wrapcolumn") t2, v2⟩, ⟨h3, .str (Str.ofString "_linejunk") t3, .none⟩, ⟨h4, .str (Str.ofString "_charjunk") t4, .ref 29⟩]) → Q' (.ref x) s') :
    wpAny (model prog w) A (call (.ref 111) [v1, v2]) Q' E s := by
  have X : (Mine.kcap.heap_1 w.params).In s.heap := G.X.keeps S.keep
  have NL := G.nl.keeps S.keep
  refine wpAny_call ?_
  obtain ⟨h, g, d, t, os⟩ := s
  refine make_core (makes_of X (by k_is)) (looks_findIn X (by k_is)) (fun self => bind_fn X self (by k_is)) (.inl rfl) ?_
  have k1 : ∀ b o, h.get? b = some o → ((h.push emptyDict).push (instObj 111 h.objs.size)).get? b = some o := fun b o e => Heap.get?_push_of_some _ (Heap.get?_push_of_some _ e)
  have X1 := X.keeps k1
  have hdx : ((h.push emptyDict).push (instObj 111 h.objs.size)).get? h.objs.size = some emptyDict := Heap.get?_push_of_some _ (Heap.get?_push_size _ rfl)
  have hx : ((h.push emptyDict).push (instObj 111 h.objs.size)).get? (h.objs.size + 1) = some (instObj 111 h.objs.size) := by
    have : (h.push emptyDict).objs.size = h.objs.size + 1 := Heap.size_push _ _
    rw [← this]; exact Heap.get?_push_size _ rfl
  generalize hH : (h.push emptyDict).push (instObj 111 h.objs.size) = H1 at *
  refine' enter_raw X1 (NL.keeps k1) ?ho ?hcd ?hco ?hgen ?hk ?hbind ?hcell ?hloc ?hroom (fun h₁ hns hk₁ => ?_)
  case ho => k_is
  case hcd => k_is
  case hbind => exact binds_K X1 rfl (by k_is) rfl rfl rfl
  case hcell => decide
  case hloc => exact locs rfl
  case hco => exact rfl
  case hgen => exact rfl
  case hk => exact rfl
  case hroom => simp only [depth_under_make]; have := rm.dp; (first | lia | omega)
  have F : Fr h _ h₁ _ := ⟨hns, fun b o e => hk₁ _ _ (k1 _ _ e), by show h.objs.size ≤ H1.objs.size; exact Nat.le_of_lt (Nat.lt_of_le_of_lt (Nat.le_succ _) (Heap.lt_size hx))⟩
  have N : News h H1.objs.size h₁ [(h.objs.size + 1, instObj 111 h.objs.size), (h.objs.size, dictOf [] 0)] := by
    intro p hp
    rcases List.mem_cons.mp hp with rfl | hp
    · exact ⟨hk₁ _ _ hx, Nat.ne_of_lt (Heap.lt_size hx), Heap.get?_none_of_le (Nat.le_succ _)⟩
    · rcases List.mem_cons.mp hp with rfl | hp
      · exact ⟨hk₁ _ _ hdx, Nat.ne_of_lt (Heap.lt_size hdx), Heap.get?_none_of_le (Nat.le_refl _)⟩
      · cases hp
  have ne : h.objs.size + 1 ≠ h.objs.size := by (first | lia | omega)
  have keep := F.keep
  clear hns hk₁
  iterate 4
    refine' init_store F X N ne ?hk ?hyl ?hym ?hyd ?hzl ?hzm ?hzd ?hs ?hp ?ht ?hh ?hl ?e ?hlen (fun h' hsh t tk F N => ?_) ?hsw
    case hk => exact rfl
    case hyl => exact rfl
    case hym => exact rfl
    case hyd => decide +kernel
    case hzl => exact rfl
    case hzm => exact rfl
    case hzd => decide +kernel
    case hs => k_is
    case hp => k_is
    case ht => k_is
    case hh => k_is
    case hl => exact rfl
    case e => exact fun _ _ => rfl
    case hlen => simp
    case hsw => exact rfl
    simp only [List.nil_append, List.cons_append, Nat.zero_add, Nat.reduceAdd] at N
  refine wpAny_execs_nil ?_
  refine ⟨rfl, ?_⟩
  refine hq (h.objs.size + 1) h.objs.size _ _ _ ⟨h', _, rfl, F.keep⟩ (Heap.get?_none_of_le (Nat.le_succ _)) (Heap.get?_none_of_le (Nat.le_refl _)) ne (N.get (.head _)) (N.get (.tail _ (.head _))) ⟨_, _, _, _, _, _, _, _, rfl⟩
theorem html_op {w : World} {h₀ : Heap} {prog : Program} {env : Env} {n : Nat} (G : Gr (Mine.kcap.heap_1 w.params) h₀) :
    ∀ (loc : Loc) (Z : Zm) (H : LH) (s : Shared) (ps : List PV) (vs : List Value), Sat h₀ Z env loc H s.heap → VRs Z ps vs → OpOk h₀ prog w (n + 2) env loc Z H s (call (.ref 111) vs)
      (fun Q => ∃ size wr : Int, ps = [.int size, .int wr] ∧ Q (.obj 111 [("_tabsize", .int size), ("_wrapcolumn", .int wr), ("_linejunk", .none), ("_charjunk", .raw (.ref 29))]) H) := by
  intro loc Z H s ps vs S hv A Q Q' E rm hW q
  obtain ⟨size, wr, rfl, hQ⟩ := hW
  cases hv with
  | cons a r =>
    cases r with
    | cons b r =>
    cases r
    cases b with
    | int _ t' =>
    cases a with
    | int _ t =>
      refine html_make G rm S fun x dx es k s' kp hx hdx hne ex edx hes => ?_
      obtain ⟨h1, h2, h3, h4, t1, t2, t3, t4, rfl⟩ := hes
      have k1 := Ke.frozen S kp hx ex
      have hZd : (Z.set x (instObj 111 dx)) dx = none := by
        unfold Zm.set; rw [if_neg (Ne.symm hne)]
        cases r : Z dx with
        | none => rfl
        | some o => have := S.frz dx o r; rw [hdx] at this; cases this
      have nl : ∀ o, s.heap.get? dx ≠ some o := fun o e => by rw [hdx] at e; cases e
      have S2 := k1.sat.addFrozen edx (fun e => by obtain ⟨o, eo⟩ := S.nsAt; rw [e] at eo; exact nl o eo) (fun m c hm e => by obtain ⟨_, _, o, eo, _⟩ := S.cellZ m c hm; rw [e] at eo; exact nl o eo) hZd (by
        cases r : H dx with
        | none => rfl
        | some l => obtain ⟨_, _, _, eo, _⟩ := S.obj dx l r; exact absurd eo (nl _))
      have hz := Zm.le_set (dictOf [⟨h1, .str (Str.ofString "_tabsize") t1, .int size t⟩, ⟨h2, .str (Str.ofString "_wrapcolumn") t2, .int wr t'⟩, ⟨h3, .str (Str.ofString "_linejunk") t3, .none⟩, ⟨h4, .str (Str.ofString "_charjunk") t4, .ref 29⟩] k) hZd
      refine q _ _ _ _ _ ⟨S2, kp, ⟨k1.fz.1.trans hz, fun a ha ha' => ?_⟩, FreshH.refl s H⟩ (.obj (hz _ _ (Zm.set_self _ _ _)) (Zm.set_self _ _ _) ?_) hQ
      · by_cases e : a = dx
        · rw [e]; exact hdx
        · refine k1.fz.2 a ha ?_
          unfold Zm.set at ha' ⊢
          rw [if_neg e] at ha'; exact ha'
      · exact .cons (.int _ _) rfl (.cons (.int _ _) rfl (.cons .none rfl (.cons (.raw _) rfl .nil)))
theorem ev_html {w : World} {h₀ : Heap} {prog : Program} {env : Env} {n : Nat} {p pos : Pos} {e : Expr} {rest : List Expr} {F : EsT} (G : Gr (Mine.kcap.heap_1 w.params) h₀) (hn : 2 ≤ n) (hx : env.kindOf (Str.ofString "HtmlDiff") = some .globalImplicit) (hg : env.globals = mainGlobals) (hes : EsOk h₀ prog w n env (e :: rest) F)
    (h5 : starEach (e :: rest) env = (false, eval e env) :: starEach rest env) (h6 : (backTo pos (starEach rest env)).any (·.1) = false)
    (h7 : eval (.Call (.Name (Str.ofString "HtmlDiff") p) (e :: rest) [] pos) env = (do callWith pos (← eval (.Name (Str.ofString "HtmlDiff") p) env) [] (backTo pos (starEach (e :: rest) env)) (backToKw pos (keywordEach [] env)))) :
    EvOk h₀ prog w n env (.Call (.Name (Str.ofString "HtmlDiff") p) (e :: rest) [] pos) (fun σ Q => F σ fun ps H₁ => ∃ size wr : Int, ps = [.int size, .int wr] ∧ Q (.obj 111 [("_tabsize", .int size), ("_wrapcolumn", .int wr), ("_linejunk", .none), ("_charjunk", .raw (.ref 29))]) H₁) := by
  refine' ev_call (fv := .ref 111) (W := fun ps H₁ Q => ∃ size wr : Int, ps = [.int size, .int wr] ∧ Q (.obj 111 [("_tabsize", .int size), ("_wrapcolumn", .int wr), ("_linejunk", .none), ("_charjunk", .raw (.ref 29))]) H₁) (nm_glob G ?hn hx hg ?hd) (kpr_K G ?kk) hes (fun loc Z H s ps vs S hv A Q Q' E rm f q => html_op (n := 0) G loc Z H s ps vs S hv A Q Q' E (rm.le hn) f q) h5 h6 h7
  case hn => k_is
  case hd => decide
  case kk => k_is
end Mine
namespace Mine
set_option maxHeartbeats 4000000 in
theorem tab_call {p : Program} {loose : List Str} {mean : ExcName → Option Value} {mg mb : Str → Option Value} {w : World} {h₀ : Heap} {prog : Program} {env : Env} {A : Around} {Z : Zm} {loc : Loc} {H : LH} {s : Shared} {Q' : Value → Shared → Prop} {E : Value → Shared → Prop} {n : Nat}
    {vx v1 v2 : Value} {p1 p2 : PV} {xs1 xs2 : List Str} {size : Int} {fs : List (String × PV)}
    (G : Gr (Mine.kcap.heap_1 w.params) h₀) (T : Top p loose mean mg mb h₀) (C : CodeHd h₀ 57 55) (rm : Rm (n + 4) A) (S : Sat h₀ Z env loc H s.heap) (hP : s.heap.get? 55 = some (tabObj #[])) (hZP : Z 55 = none)
    (hx : VR Z (.obj 111 (("_tabsize", .int size) :: fs)) vx) (hv1 : VR Z p1 v1) (hv2 : VR Z p2 v2) (hi1 : iterOf H.ro p1 = some (xs1.map .str)) (hi2 : iterOf H.ro p2 = some (xs2.map .str))
    (h0 : -1 ≤ size) (h9 : size ≤ 9) (hn1 : xs1.length ≤ 100) (hn2 : xs2.length ≤ 100) (hl1 : ∀ l ∈ xs1, l.length ≤ 100) (hl2 : ∀ l ∈ xs2, l.length ≤ 100)
    (q : ∀ v Z' s', VR Z' (.tup [.lst (xs1.map fun l => .str (expandS size l)), .lst (xs2.map fun l => .str (expandS size l))]) v → Zle Z Z' → Sat h₀ Z' env loc H s'.heap → (∃ tb, s'.heap.get? 55 = some (tabObj tb)) → (∃ h' tk, s' = { s with heap := h', toks := tk }) → Q' v s') :
    wpAny (model prog w) A (call (.ref 58) [vx, v1, v2]) Q' E s := by
  refine wpAny_call ?_
  refine' enter_ok (names := ["self", "fromlines", "tolines"]) (ps := [.obj 111 (("_tabsize", .int size) :: fs), p1, p2]) H.ro G ?ho ?hcd ?hco ?hgen ?hk ?hbind ?hkind ?hnn ?hnd ?hd S (fun a l e => LH.ro_some e) (.cons hx (.cons hv1 (.cons hv2 .nil))) (fun L' s₁ S₁ kp hL hC => ?_)
  case ho => k_is
  case hcd => k_is
  case hco => exact rfl
  case hgen => exact rfl
  case hk => exact rfl
  case hbind => exact BindsTo.of_eq rfl
  case hkind => decide +kernel
  case hnn => decide
  case hnd => decide +kernel
  case hd => have := rm.dp; (first | lia | omega)
  have hP1 : s₁.heap.get? 55 = some (tabObj #[]) := kp.get hP
  refine' wpAny_execs_cons (nest_ok (c := 57) T C S₁ hP1 hZP ?hcode ?hgl ?hcl ?hd0 ?hk0 ?ha ?hst (fun f c' oc doc ctv mn vs t tb s₂ S₂ hod hvs hf hc' hcf hPs sh frm => ?_))
  case hcode => exact rfl
  case hgl => exact rfl
  case hcl => exact rfl
  case hd0 => exact rfl
  case hk0 => exact rfl
  case ha => exact rfl
  case hst => exact .inr ⟨rfl, rfl⟩
  obtain ⟨h₁, hz⟩ := zbase S₂.frz
  have S₃ := S₂.rebase hz
  have G₁ : Gr (Mine.kcap.heap_1 w.params) h₁ := G.keeps fun b o e => (hz b o).mpr (S₂.base b o e)
  have hff := (hz f _).mpr (Zm.set_self _ f _)
  have hcc : h₁.get? c' = some oc := (hz c' oc).mpr (by unfold Zm.set; rw [if_neg hcf, if_pos rfl])
  have hop := expand_op (prog := prog) (w := w) (n := n) (spec := expandS) (C := 111) (cs := L' + 1) (size := size) G₁ hff hcc hod hvs ?hbody rfl rfl rfl (by decide) rfl (fun _ => rfl) h0 h9
  case hbody =>
    clear hff hcc hz S₃ S₂ S₁
    intro A E g L f cdv s Q line t size tk x dx es n X F hl h0 h9 ht hc I hg q
    have len1 := replace_len line 32 0
    refine wpAny_execs_cons (wpAny_Assign_Name (rep_meth (by decide +kernel) (by decide +kernel) (wpAny_Name (wpAny_loadName_local rfl rfl F.ns rfl ⟨line, t, rfl, ht, Nat.le_trans hl (by decide), fun t1 k1 => ?_⟩) (by decide +kernel)) _ rfl) rfl)
    refine wpAny_storeName_local rfl F.ns (fun h1 hn1 hs1 => ?_) rfl
    have F1 := F.set hn1 hs1
    clear hn1 hs1
    have e0 : Txt.replace line (Str.ofString " ") (Str.ofString "\x00") = Txt.replace line ⟨#[32]⟩ ⟨#[0]⟩ := rfl
    generalize hr1 : Txt.replace line (Str.ofString " ") (Str.ofString "\x00") = r1 at F1
    have hl1 : r1.length ≤ 100 := by rw [← hr1, e0, len1]; exact hl
    have I1 : InstAt h1 x (instObj 111 dx) 111 (some (dictOf es n)) := ⟨F1.keep _ _ I.at_, rfl, rfl, F1.keep _ _ I.dict⟩
    have hc1 : h1.IsCell (L' + 1) (some (.ref x)) := by
      obtain ⟨o, e, d⟩ := hc
      exact ⟨o, F1.keep _ _ e, d⟩
    refine wpAny_execs_cons (wpAny_Assign_Name (xt_meth (wpAny_Name (wpAny_loadName_local rfl rfl F1.ns (if_pos rfl) ⟨r1, t1, rfl, hl1, Attribute_name (wpAny_Name (wpAny_loadName_free rfl rfl rfl hc1 ?_ (by decide +kernel)) (by decide +kernel))⟩) (by decide +kernel)) _ rfl rfl) rfl)
    refine' get_own F1 X I1 ?g1 ?g2 ?g3 ?g4 hg rfl ⟨size, tk, rfl, by (first | lia | omega), h9, fun t2 k2 => ?_⟩
    case g1 => k_is
    case g2 => k_is
    case g3 => k_is
    case g4 => k_is
    refine wpAny_storeName_local rfl F1.ns (fun h2 hn2 hs2 => ?_) rfl
    have F2 := F1.set hn2 hs2
    clear hn2 hs2
    generalize hr2 : xtTab size r1 = r2 at F2
    have hl2 : r2.length ≤ 1000 := by
      rw [← hr2]
      have := xt_size size h9 r1.cps.toList (#[], 0)
      have e : r1.cps.toList.length = r1.length := by simp [Str.length]
      show (r1.cps.toList.foldl (xtStep size) (#[], 0)).1.size ≤ _
      rw [e] at this
      simp only [Array.size_empty, Nat.zero_add] at this
      (first | lia | omega)
    refine wpAny_execs_cons (wpAny_Assign_Name (rep_meth (by decide +kernel) (by decide +kernel) (wpAny_Name (wpAny_loadName_local rfl rfl F2.ns (if_pos rfl) ⟨r2, t2, rfl, Nat.succ_pos _, Nat.le_trans hl2 (by decide), fun t3 k3 => ?_⟩) (by decide +kernel)) _ rfl) rfl)
    refine wpAny_storeName_local rfl F2.ns (fun h3 hn3 hs3 => ?_) rfl
    have F3 := F2.set hn3 hs3
    clear hn3 hs3
    have e3 : Txt.replace r2 (Str.ofString " ") (Str.ofString "\t") = Txt.replace r2 ⟨#[32]⟩ ⟨#[9]⟩ := rfl
    generalize hr3 : Txt.replace r2 (Str.ofString " ") (Str.ofString "\t") = r3 at F3
    have hl3 : r3.length ≤ 1000 := by rw [← hr3, e3, replace_len]; exact hl2
    have e4 : Txt.replace r3 (Str.ofString "\x00") (Str.ofString " ") = Txt.replace r3 ⟨#[0]⟩ ⟨#[32]⟩ := rfl
    refine wpAny_execs_cons (wpAny_Return_some (rs_meth (rep_meth (by decide +kernel) (by decide +kernel) (wpAny_Name (wpAny_loadName_local rfl rfl F3.ns (if_pos rfl) ⟨r3, t3, rfl, Nat.succ_pos _, Nat.le_trans hl3 (by decide), fun t4 k4 => ?_⟩) (by decide +kernel)) _ rfl) _ rfl))
    refine ⟨_, t4, rfl, ?_, fun t5 k5 => ?_⟩
    · rw [e4, replace_len, sizeLine_eq]; (first | lia | omega)
    have e5 : Txt.rstripChars (Txt.replace r3 (Str.ofString "\x00") (Str.ofString " ")) (Str.ofString "\n") = expandS size line := by
      unfold expandS
      rw [e4, ← hr3, e3, ← hr2, ← hr1, e0]; rfl
    rw [e5]
    exact q t5 h3 k5 _ F3
  refine' XsOk.use (n := n + 1) (H := H.ro) (Q := fun fl _ => fl = .ret (.tup [.lst (xs1.map fun l => .str (expandS size l)), .lst (xs2.map fun l => .str (expandS size l))])) ?hX (rm.deeper _ |>.le (by (first | lia | omega))) S₃ ?pre ?post
  case hX =>
    refine' xs_cons ?s1 (xs_cons ?s2 (xs_cons (st_ret ?r) xs_nil))
    case s1 =>
      refine' st_assign_comp_at (fun loc => loc "self" = some (.obj 111 (("_tabsize", .int size) :: fs))) (caps := ["expand_tabs"]) ?hi ?hclos ?cp ?hcell ?hnames ?ha ?ht ?he ?hst ?hsw ?htg ?hs
      case hclos => rfl
      case cp => exact ⟨fun p hp => by (simp only [List.mem_singleton] at hp; subst hp; first | exact List.mem_cons_self | exact List.mem_cons_of_mem _ List.mem_cons_self), by first | decide | simp, rfl, fun C y hy => by (simp only [List.mem_singleton] at hy; subst hy; exact ⟨by first | exact Or.inl rfl | exact Or.inr rfl, rfl, by intro h; cases h⟩)⟩
      case hcell => decide
      case hnames => decide
      case htg => intro _ _; rfl
      case hs => intro _; rfl
      case hst => exact Or.inl rfl
      case hsw => rfl
      case ha => exact fun C => ac_name rfl
      case hi => repeat' (first | with_reducible exact ev_int _ _ _ | (with_reducible refine' ev_name _ _ ?_ ?_) | (with_reducible refine' ev_list ?_) | (with_reducible refine' ev_tuple ?_) | with_reducible exact es_nil | (with_reducible refine' es_cons ?_ ?_ ?_) | with_reducible exact ts_nil | (with_reducible refine' ts_one ?_) | ((with_reducible show nsIn _ _ _ = _); k_is) | ((with_reducible show plainGet _ _ _ = _); k_is) | ((with_reducible show hasDictIn _ _ = _); k_is) | ((with_reducible show findIn _ _ _ = _); k_is) | ((with_reducible show noGet _ _ = _); k_is) | ((with_reducible show Stores _ _); first | exact Or.inl rfl | exact Or.inr ⟨rfl, rfl⟩) | ((with_reducible show (_ == _) = false); decide) | ((with_reducible show behindInMarks _ _ = _); with_unfolding_all rfl) | ((with_reducible show _ ≤ _); decide) | ((with_reducible show _ = _); rfl) | ((with_reducible show ∀ _, _ = _); intro _; rfl) | ((with_reducible show ∀ _ _, _ = _); intro _ _; rfl) | ((with_reducible show ∀ _ _ _, _ = _); intro _ _ _; rfl))
      case ht => intro C; repeat' (first | with_reducible exact ev_int _ _ _ | (with_reducible refine' ev_name _ _ ?_ ?_) | (with_reducible refine' ev_list ?_) | (with_reducible refine' ev_tuple ?_) | with_reducible exact es_nil | (with_reducible refine' es_cons ?_ ?_ ?_) | with_reducible exact ts_nil | (with_reducible refine' ts_one ?_) | ((with_reducible show nsIn _ _ _ = _); k_is) | ((with_reducible show plainGet _ _ _ = _); k_is) | ((with_reducible show hasDictIn _ _ = _); k_is) | ((with_reducible show findIn _ _ _ = _); k_is) | ((with_reducible show noGet _ _ = _); k_is) | ((with_reducible show Stores _ _); first | exact Or.inl rfl | exact Or.inr ⟨rfl, rfl⟩) | ((with_reducible show (_ == _) = false); decide) | ((with_reducible show behindInMarks _ _ = _); with_unfolding_all rfl) | ((with_reducible show _ ≤ _); decide) | ((with_reducible show _ = _); rfl) | ((with_reducible show ∀ _, _ = _); intro _; rfl) | ((with_reducible show ∀ _ _, _ = _); intro _ _; rfl) | ((with_reducible show ∀ _ _ _, _ = _); intro _ _ _; rfl))
      case he =>
        intro loc Z H s S hl C
        obtain ⟨v, hcell, hv⟩ := S.cellOf (x := "self") hl (by intro h; cases h) rfl
        obtain ⟨x, dx, es, k, rfl, zx, zdx, fr⟩ := hv.objInv
        obtain ⟨tk, hg⟩ := fr.headInt
        exact evat_call_raw (.ref f) (kpr_fn ⟨_, _, _, _, hff⟩) (es_cons (ev_name "line" _ (by decide) (by decide)) es_nil rfl) (hop s.heap x dx es k tk hcell (S.frz _ _ zx) (S.frz _ _ zdx) hg _) (by decide) (by decide) rfl rfl rfl
    case s2 =>
      refine' st_assign_comp_at (fun loc => loc "self" = some (.obj 111 (("_tabsize", .int size) :: fs))) (caps := ["expand_tabs"]) ?hi ?hclos ?cp ?hcell ?hnames ?ha ?ht ?he ?hst ?hsw ?htg ?hs
      case hclos => rfl
      case cp => exact ⟨fun p hp => by (simp only [List.mem_singleton] at hp; subst hp; first | exact List.mem_cons_self | exact List.mem_cons_of_mem _ List.mem_cons_self), by first | decide | simp, rfl, fun C y hy => by (simp only [List.mem_singleton] at hy; subst hy; exact ⟨by first | exact Or.inl rfl | exact Or.inr rfl, rfl, by intro h; cases h⟩)⟩
      case hcell => decide
      case hnames => decide
      case htg => intro _ _; rfl
      case hs => intro _; rfl
      case hst => exact Or.inl rfl
      case hsw => rfl
      case ha => exact fun C => ac_name rfl
      case hi => repeat' (first | with_reducible exact ev_int _ _ _ | (with_reducible refine' ev_name _ _ ?_ ?_) | (with_reducible refine' ev_list ?_) | (with_reducible refine' ev_tuple ?_) | with_reducible exact es_nil | (with_reducible refine' es_cons ?_ ?_ ?_) | with_reducible exact ts_nil | (with_reducible refine' ts_one ?_) | ((with_reducible show nsIn _ _ _ = _); k_is) | ((with_reducible show plainGet _ _ _ = _); k_is) | ((with_reducible show hasDictIn _ _ = _); k_is) | ((with_reducible show findIn _ _ _ = _); k_is) | ((with_reducible show noGet _ _ = _); k_is) | ((with_reducible show Stores _ _); first | exact Or.inl rfl | exact Or.inr ⟨rfl, rfl⟩) | ((with_reducible show (_ == _) = false); decide) | ((with_reducible show behindInMarks _ _ = _); with_unfolding_all rfl) | ((with_reducible show _ ≤ _); decide) | ((with_reducible show _ = _); rfl) | ((with_reducible show ∀ _, _ = _); intro _; rfl) | ((with_reducible show ∀ _ _, _ = _); intro _ _; rfl) | ((with_reducible show ∀ _ _ _, _ = _); intro _ _ _; rfl))
      case ht => intro C; repeat' (first | with_reducible exact ev_int _ _ _ | (with_reducible refine' ev_name _ _ ?_ ?_) | (with_reducible refine' ev_list ?_) | (with_reducible refine' ev_tuple ?_) | with_reducible exact es_nil | (with_reducible refine' es_cons ?_ ?_ ?_) | with_reducible exact ts_nil | (with_reducible refine' ts_one ?_) | ((with_reducible show nsIn _ _ _ = _); k_is) | ((with_reducible show plainGet _ _ _ = _); k_is) | ((with_reducible show hasDictIn _ _ = _); k_is) | ((with_reducible show findIn _ _ _ = _); k_is) | ((with_reducible show noGet _ _ = _); k_is) | ((with_reducible show Stores _ _); first | exact Or.inl rfl | exact Or.inr ⟨rfl, rfl⟩) | ((with_reducible show (_ == _) = false); decide) | ((with_reducible show behindInMarks _ _ = _); with_unfolding_all rfl) | ((with_reducible show _ ≤ _); decide) | ((with_reducible show _ = _); rfl) | ((with_reducible show ∀ _, _ = _); intro _; rfl) | ((with_reducible show ∀ _ _, _ = _); intro _ _; rfl) | ((with_reducible show ∀ _ _ _, _ = _); intro _ _ _; rfl))
      case he =>
        intro loc Z H s S hl C
        obtain ⟨v, hcell, hv⟩ := S.cellOf (x := "self") hl (by intro h; cases h) rfl
        obtain ⟨x, dx, es, k, rfl, zx, zdx, fr⟩ := hv.objInv
        obtain ⟨tk, hg⟩ := fr.headInt
        exact evat_call_raw (.ref f) (kpr_fn ⟨_, _, _, _, hff⟩) (es_cons (ev_name "line" _ (by decide) (by decide)) es_nil rfl) (hop s.heap x dx es k tk hcell (S.frz _ _ zx) (S.frz _ _ zdx) hg _) (by decide) (by decide) rfl rfl rfl
    case r => repeat' (first | with_reducible exact ev_int _ _ _ | (with_reducible refine' ev_name _ _ ?_ ?_) | (with_reducible refine' ev_list ?_) | (with_reducible refine' ev_tuple ?_) | with_reducible exact es_nil | (with_reducible refine' es_cons ?_ ?_ ?_) | with_reducible exact ts_nil | (with_reducible refine' ts_one ?_) | ((with_reducible show nsIn _ _ _ = _); k_is) | ((with_reducible show plainGet _ _ _ = _); k_is) | ((with_reducible show hasDictIn _ _ = _); k_is) | ((with_reducible show findIn _ _ _ = _); k_is) | ((with_reducible show noGet _ _ = _); k_is) | ((with_reducible show Stores _ _); first | exact Or.inl rfl | exact Or.inr ⟨rfl, rfl⟩) | ((with_reducible show (_ == _) = false); decide) | ((with_reducible show behindInMarks _ _ = _); with_unfolding_all rfl) | ((with_reducible show _ ≤ _); decide) | ((with_reducible show _ = _); rfl) | ((with_reducible show ∀ _, _ = _); intro _; rfl) | ((with_reducible show ∀ _ _, _ = _); intro _ _; rfl) | ((with_reducible show ∀ _ _ _, _ = _); intro _ _ _; rfl))
  case pre =>
    refine seq_to ⟨((argLoc ["self", "fromlines", "tolines"] [PV.obj 111 (("_tabsize", PV.int size) :: fs), p1, p2]).set "expand_tabs" (.raw (.ref f))).set "fromlines" (.lst (xs1.map fun l => .str (expandS size l))), H.ro⟩ (fun R hR => ?_) ?_
    · refine ⟨rfl, get_W rfl ⟨_, hi1, by rw [List.length_map, sizeLine_eq]; (first | lia | omega), compW_map (fun p => match p with | .str l => .str (expandS size l) | p => p) _ (fun p hp R1 hr => ?_) (listW_lst ?_)⟩⟩
      · obtain ⟨l, hl, rfl⟩ := List.mem_map.mp hp
        exact ⟨rfl, get_W rfl ⟨l, rfl, hl1 l hl, hr⟩⟩
      · rw [List.map_map]; exact hR
    refine seq_to ⟨(((argLoc ["self", "fromlines", "tolines"] [PV.obj 111 (("_tabsize", PV.int size) :: fs), p1, p2]).set "expand_tabs" (.raw (.ref f))).set "fromlines" (.lst (xs1.map fun l => .str (expandS size l)))).set "tolines" (.lst (xs2.map fun l => .str (expandS size l))), H.ro⟩ (fun R hR => ?_) ?_
    · refine ⟨rfl, get_W rfl ⟨_, hi2, by rw [List.length_map, sizeLine_eq]; (first | lia | omega), compW_map (fun p => match p with | .str l => .str (expandS size l) | p => p) _ (fun p hp R1 hr => ?_) (listW_lst ?_)⟩⟩
      · obtain ⟨l, hl, rfl⟩ := List.mem_map.mp hp
        exact ⟨rfl, get_W rfl ⟨l, rfl, hl2 l hl, hr⟩⟩
      · rw [List.map_map]; exact hR
    exact seq_ret _ (fun R hR => get_W rfl (get_W rfl ⟨by simp [sizeLine_eq], hR⟩)) rfl
  case post =>
    intro fl p loc' Z' H' s' k vf hp
    subst hp
    cases vf with
    | ret vr =>
      rename_i v
      have zc : Z c' = none := by
        cases r : Z c' with
        | none => rfl
        | some o => have := S₁.frz _ _ r; rw [hc'] at this; cases this
      have zf : (Z.set c' oc) f = none := by
        unfold Zm.set; rw [if_neg (Ne.symm hcf)]
        cases r : Z f with
        | none => rfl
        | some o => have := S₁.frz _ _ r; rw [hf] at this; cases this
      have neL : ∀ b o, s.heap.get? b = some o → b ≠ L' := fun b o e r => by rw [r, hL] at e; cases e
      have neC : ∀ b o, s.heap.get? b = some o → ∀ m, (m, b) ∉ (envOfC _ _ L' 58 (.ref 57)).cells := fun b o e m hm => by rw [hC m b hm] at e; cases e
      have to2 : ∀ b o, b ≠ 55 → s.heap.get? b = some o → s₂.heap.get? b = some o := fun b o hb e => frm b o (kp.get e) hb (neL b o e) (neC b o e) fun xs => LH.ro_not
      have hall : ∀ b o, b ≠ 55 → s.heap.get? b = some o → s'.heap.get? b = some o := fun b o hb e => k.frm b o (to2 b o hb e) (neL b o e) (neC b o e) fun xs => LH.ro_not
      have hP' : s'.heap.get? 55 = some (tabObj tb) := k.frm 55 _ hPs (neL _ _ hP) (neC _ _ hP) fun xs => LH.ro_not
      have z2 : Zle Z Z' := ((Zm.le_set oc zc).trans (Zm.le_set _ zf)).trans k.fz.1
      have hfr : ∀ a, Z a = none → Z' a ≠ none → s.heap.get? a = none := fun a ha ha' => by
        by_cases e1 : a = f
        · rw [e1]; exact kp.none hf
        · by_cases e2 : a = c'
          · rw [e2]; exact kp.none hc'
          · have h2 := k.fz.2 a (by unfold Zm.set; rw [if_neg e1, if_neg e2]; exact ha) ha'
            cases r : s.heap.get? a with
            | none => rfl
            | some o =>
              by_cases e3 : a = 55
              · rw [e3, hPs] at h2; cases h2
              · rw [to2 a o e3 r] at h2; cases h2
      refine q v Z' s' vr z2 (S.back hP hP' hZP hall z2 hfr k.sat.frz) ⟨tb, hP'⟩ ?_
      obtain ⟨ha, ta, rfl, _⟩ := kp
      obtain ⟨hb, tb, rfl⟩ := sh
      obtain ⟨hc, tc, rfl⟩ := k.sh
      exact ⟨_, _, rfl⟩
theorem Sh.trans {a b c : Shared} (x : ∃ h t, b = { a with heap := h, toks := t }) (y : ∃ h t, c = { b with heap := h, toks := t }) : ∃ h t, c = { a with heap := h, toks := t } := by
  obtain ⟨h, t, rfl⟩ := x
  obtain ⟨h', t', rfl⟩ := y
  exact ⟨h', t', rfl⟩
theorem Kp.sh {a b : Shared} (x : Kp a b) : ∃ h t, b = { a with heap := h, toks := t } := by
  obtain ⟨h, t, e, _⟩ := x
  exact ⟨h, t, e⟩
theorem Ke.to {h₀ : Heap} {env : Env} {loc : Loc} {Z Z' : Zm} {H H' : LH} {s s' : Shared} {v : Value} {p q : PV} (k : Ke h₀ env loc Z H s Z' H' s') (hv : VR Z' p v) (e : p = q ∧ H' = H) : Ke h₀ env loc Z H s Z' H s' ∧ VR Z' q v := by
  obtain ⟨rfl, rfl⟩ := e
  exact ⟨k, hv⟩
/-- x = o._tab_newline_replace([l], [])[0][0] -/
theorem tab_stmt {p : Program} {loose : List Str} {mean : ExcName → Option Value} {mg mb : Str → Option Value} {w : World} {h₀ : Heap} {prog : Program} {env : Env} {A : Around} {Z : Zm} {loc : Loc} {H : LH} {s : Shared} {Q' : Flow → Shared → Prop} {E : Value → Shared → Prop} {n : Nat}
    {x : String} {o e i1 i2 : Expr} {rest : List Expr} {apos p0 pp p1 p2 p3 : Pos} {rs : List Stmt} {fo f1 f2 : ET} {F : EsT} {size : Int} {fs : List (String × PV)} {l : Str} {pl : Sem Bool}
    (G : Gr (Mine.kcap.heap_1 w.params) h₀) (T : Top p loose mean mg mb h₀) (C : CodeHd h₀ 57 55) (rm : Rm (n + 8 + 4) A) (S : Sat h₀ Z env loc H s.heap) (hP : s.heap.get? 55 = some (tabObj #[])) (hZP : Z 55 = none) (hloc : 55 ≠ env.locals) (hcel : ∀ n, (n, 55) ∉ env.cells)
    (ho : EvOk h₀ prog w (n + 8 + 4) env o fo) (hes : EsOk h₀ prog w (n + 8 + 4) env (e :: rest) F) (hi1 : EvOk h₀ prog w (n + 8 + 4) env i1 f1) (hi2 : EvOk h₀ prog w (n + 8 + 4) env i2 f2)
    (f : fo ⟨loc, H⟩ fun p H₁ => p = .obj 111 (("_tabsize", .int size) :: fs) ∧ H₁ = H) (fn : fs.lookup "_tab_newline_replace" = none) (ff : F ⟨loc, H⟩ fun ps H₂ => ps = [.lst [.str l], .lst []] ∧ H₂ = H)
    (hf1 : ∀ K : PV → LH → Prop, K (.int 0) H → f1 ⟨loc, H⟩ K) (hf2 : ∀ K : PV → LH → Prop, K (.int 0) H → f2 ⟨loc, H⟩ K)
    (h0 : -1 ≤ size) (h9 : size ≤ 9) (hl : l.length ≤ 100)
    (he : eval (.Call (.Attribute o (Str.ofString "_tab_newline_replace") apos) (e :: rest) [] pp) env = (do
      let ov ← eval o env
      standAt apos.atName
      let (f, first) ← holding [ov] (getMethod ov (Str.ofString "_tab_newline_replace") pl)
      callWith pp f first (backTo pp (starEach (e :: rest) env)) []))
    (hsw : swapsWith (.Subscript (.Subscript (.Call (.Attribute o (Str.ofString "_tab_newline_replace") apos) (e :: rest) [] pp) i1 p1) i2 p2) (some (.Name (Str.ofString x) p0)) p3.line env = pure false)
    (hs : starEach (e :: rest) env = (false, eval e env) :: starEach rest env) (hp : (backTo pp (starEach rest env)).any (·.1) = false)
    (hz1 : ∀ o v, subscripted i1 false o v = operate [o, v] (getItem o v)) (hz2 : ∀ o v, subscripted i2 false o v = operate [o, v] (getItem o v))
    (hk : env.kindOf (Str.ofString x) = some .local ∨ (env.kindOf (Str.ofString x) = some .cell ∧ (env.cells.lookup (Str.ofString x)).isSome = true))
    (q : ∀ Z' s', Sat h₀ Z' env (loc.set x (.str (expandS size l))) H s'.heap → (∃ tb, s'.heap.get? 55 = some (tabObj tb)) → (∃ h' tk, s' = { s with heap := h', toks := tk }) → wpAny (model prog w) A (execs rs env) Q' E s') :
    wpAny (model prog w) A (execs (.Assign [.Name (Str.ofString x) p0] (.Subscript (.Subscript (.Call (.Attribute o (Str.ofString "_tab_newline_replace") apos) (e :: rest) [] pp) i1 p1) i2 p2) p3 :: rs) env) Q' E s := by
  refine wpAny_execs_cons (wpAny_Assign_Name (Subscript_ (Subscript_ (MethodCall_ ?_ he))) hsw)
  refine EvOk.use ho rm S f fun v p Z1 H1 s1 k1 v1 hp1 => ?_
  obtain ⟨k1, v1⟩ := k1.to v1 hp1
  obtain ⟨x1, dx, es, kk, rfl, zx, zdx, fr⟩ := v1.objInv
  have I : InstAt s1.heap x1 (instObj 111 dx) 111 (some (dictOf es kk)) := ⟨k1.sat.frz _ _ zx, rfl, rfl, k1.sat.frz _ _ zdx⟩
  refine' method_fn (f := 58) (G.X.keeps k1.sat.keep) I ?g1 ?g2 ?g3 ?g4 ?g5 ?g6
  case g1 => k_is
  case g2 => k_is
  case g3 => k_is
  case g4 => k_is
  case g5 =>
    show (lookIn _ (dictOf es kk)).map _ = _
    rw [lookIn_dict, fr.not (f := "_tab_newline_replace") (by rw [List.lookup_cons]; exact fn)]; rfl
  refine callWith_ok (kpr_K G (by k_is)) hes rm k1.sat ff (fun vs ps Z2 H2 s2 k2 v2 hf2 => ?_) hs hp
  obtain ⟨rfl, rfl⟩ := hf2
  obtain ⟨u1, u2, rfl, va, vb⟩ := v2.two
  refine tab_call (xs1 := [l]) (xs2 := []) G T C (n := 8) (rm.le (by (first | lia | omega))) k2.sat (k2.kp.get (k1.kp.get hP)) (k2.noZ (k1.kp.get hP) (k1.noZ hP hZP)) (v1.mono k2.fz.1) va vb rfl rfl h0 h9 (by simp) (by simp) (fun l' h => by rw [List.mem_singleton.mp h]; exact hl) (fun _ h => by cases h) fun v Z3 s3 vr hz S3 hg3 sh3 => ?_
  obtain ⟨tb, htb⟩ := hg3
  refine sub_ok (Q := fun p H' => p = .lst [.str (expandS size l)] ∧ H' = H2) hi1 rm S3 vr (hf1 _ (idx_T (k := 0) rfl (by simp) ⟨rfl, rfl⟩)) (fun v4 p4 Z4 H4 s4 k4 v4r hp4 => ?_) hz1
  obtain ⟨k4, v4⟩ := k4.to v4r hp4
  refine sub_ok (Q := fun p H' => p = .str (expandS size l) ∧ H' = H2) hi2 rm k4.sat v4 (hf2 _ (idx_L (k := 0) rfl (by simp) ⟨rfl, rfl⟩)) (fun v5 p5 Z5 H5 s5 k5 v5r hp5 => ?_) hz2
  obtain ⟨k5, v5⟩ := k5.to v5r hp5
  refine store_ok k5.sat v5 hk fun s6 k6 => q _ _ k6.sat ⟨tb, k6.frm 55 _ (k5.kp.get (k4.kp.get htb)) hloc hcel fun xs h => ?_⟩ (Sh.trans k1.kp.sh (Sh.trans k2.kp.sh (Sh.trans sh3 (Sh.trans k4.kp.sh (Sh.trans k5.kp.sh k6.sh)))))
  obtain ⟨_, vs, n0, e, _⟩ := k5.sat.obj 55 _ h
  rw [k5.kp.get (k4.kp.get htb)] at e; cases e
end Mine
namespace Mine
theorem LH.set_same {H : LH} {a : Addr} {l : LO} (h : H a = some l) : H.set a l = H := by
  funext b
  by_cases e : b = a
  · subst e; rw [LH.set_self, h]
  · rw [LH.set_ne _ _ e]
noncomputable def SmL (ys : List String) (σ σ' : St) : Prop := ∀ y, y ∉ ys → σ'.loc y = σ.loc y
theorem SmL.get {ys : List String} {σ σ' : St} (h : SmL ys σ σ') {y : String} {p : PV} (hy : y ∉ ys) (e : σ.loc y = some p) : σ'.loc y = some p := (h y hy).trans e
theorem SmL.trans {ys : List String} {σ σ₁ σ₂ : St} (a : SmL ys σ σ₁) (b : SmL ys σ₁ σ₂) : SmL ys σ σ₂ := fun y hy => (b y hy).trans (a y hy)
theorem SmL.heap {ys : List String} {σ : St} {l : Loc} {H H' : LH} (h : SmL ys σ ⟨l, H⟩) : SmL ys σ ⟨l, H'⟩ := h
theorem SmL.set {ys : List String} {σ : St} {l : Loc} {H : LH} {x : String} {p : PV} (h : SmL ys σ ⟨l, H⟩) (hx : x ∈ ys) : SmL ys σ ⟨l.set x p, H⟩ := fun y hy => (Loc.set_ne _ _ (fun e => hy (by rw [e]; exact hx))).trans (h y hy)
theorem SmL.refl (ys : List String) (σ : St) : SmL ys σ σ := fun _ _ => rfl
inductive WhS11 (σ : St) (Q : Fl → St → Prop) : Prop
  | mk (s : List Nat) (c size : Nat) (a : Addr) (h0 : 1 ≤ size) (h1 : size ≤ 6) (h2 : s.length ≤ 400) (h3 : σ.loc "sign" = some (.str (mkS [c]))) (h4 : σ.loc "size" = some (.int (size : Int))) (h5 : σ.loc "screen" = some (.ref a)) (h6 : σ.H a = some ⟨true, (s ++ [c]).map chP⟩) (h7 : Q .next ⟨σ.loc, σ.H.set a ⟨true, (scrStep size s c).map chP⟩⟩) : WhS11 σ Q
inductive LpS (σ : St) (Q : Fl → St → Prop) : Prop
  | mk (ns : List Int) (size : Nat) (a b : Addr) (h0 : 1 ≤ size) (h1 : size ≤ 6) (h2 : ns.length ≤ 62) (h3 : a ≠ b) (h4 : σ.loc "numbers" = some (.lst (ns.map .int))) (h5 : σ.loc "size" = some (.int (size : Int))) (h6 : σ.loc "line" = some (.str (mkS []))) (h7 : σ.loc "screen" = some (.ref a)) (h8 : σ.loc "marks" = some (.ref b)) (h9 : σ.H a = some ⟨true, []⟩) (h10 : σ.H b = some ⟨true, []⟩) (h11 : ∀ σ', SmL ["x", "sign", "line"] σ σ' → σ'.loc "line" = some (.str (mkS (ns.map sgn))) → σ'.H a = some ⟨true, (scr size (ns.map sgn)).map chP⟩ → σ'.H b = some ⟨true, (mks ns).map maP⟩ → Q .next σ') : LpS σ Q
inductive OkNum : PV → Bool → Prop
  | one : OkNum (.int 1) true
  | more : OkNum (.int 27) true
  | zero : OkNum (.int 0) false
  | no : OkNum (.str (mkS [])) false
noncomputable def Page (size column : Nat) : PV := .obj 111 [("_tabsize", .int (size : Int)), ("_wrapcolumn", .int (column : Int)), ("_linejunk", .none), ("_charjunk", .raw (.ref 29))]
structure Pre11 (way : Int) (size column : Nat) (number : PV) (tr : Bool) (line : List Nat) (M : List (List Nat)) (a b : Addr) (σ : St) : Prop where
  s1 : 1 ≤ size
  s6 : size ≤ 6
  c1 : 1 ≤ column
  c12 : column ≤ 12
  num : OkNum number tr
  l2 : 2 ≤ line.length
  l62 : line.length ≤ 62
  ok : ∀ c ∈ line, okC c
  mok : ∀ m ∈ M, okM m
  m1 : 6 * line.length ≤ M.length
  m2 : M.length ≤ 1000
  hab : a ≠ b
  ha : σ.H a = some ⟨true, (scr size line).map chP⟩
  hb : σ.H b = some ⟨true, M.map maP⟩
  nway : σ.loc "way" = some (.int way)
  ncol : σ.loc "column" = some (.int (column : Int))
  nnum : σ.loc "number" = some number
  nline : σ.loc "line" = some (.str (mkS line))
  nscr : σ.loc "screen" = some (.ref a)
  nmk : σ.loc "marks" = some (.ref b)
  nsh : σ.loc "sheet" = some (Page size column)
inductive Post11 : Fl → St → Prop
  | mk (way : Int) (size column : Nat) (number : PV) (tr : Bool) (line : List Nat) (M : List (List Nat)) (a b : Addr) {σ : St} (P : Pre11 way size column number tr line M a b σ) : Post11 .next σ
inductive WayS (σ : St) (Q : Fl → St → Prop) : Prop
  | mk (ws : List Int) (h0 : σ.loc "script" = some (.lst (ws.map .int))) (h1 : ws.length ≤ 63) (h2 : ∀ way : Int, Q .next ⟨σ.loc.set "way" (.int way), σ.H⟩) : WayS σ Q
inductive NumS (σ : St) (Q : Fl → St → Prop) : Prop
  | mk (ns : List Int) (h0 : σ.loc "numbers" = some (.lst (ns.map .int))) (h1 : ns.length ≤ 62) (h2 : ∀ ns' : List Int, 2 ≤ ns'.length → ns'.length ≤ 62 → ∀ σ', SmL ["numbers"] σ σ' → σ'.H = σ.H → σ'.loc "numbers" = some (.lst (ns'.map .int)) → Q .next σ') : NumS σ Q
inductive Sw3S (σ : St) (Q : Fl → St → Prop) : Prop
  | mk (way : Int) (h0 : σ.loc "way" = some (.int way)) (h1 : ∀ (size column : Nat) (number : PV) (tr : Bool), 1 ≤ size → size ≤ 6 → 1 ≤ column → column ≤ 12 → OkNum number tr → Q .next ⟨((σ.loc.set "number" number).set "column" (.int (column : Int))).set "size" (.int (size : Int)), σ.H⟩) : Sw3S σ Q
inductive CntS (σ : St) (Q : Fl → St → Prop) : Prop
  | mk (number : PV) (tr : Bool) (column : Nat) (a : Addr) (xs : List PV) (h0 : OkNum number tr) (h1 : 1 ≤ column) (h2 : column ≤ 12) (h3 : 1 ≤ xs.length) (h4 : xs.length ≤ 1000) (h5 : σ.loc "number" = some number) (h6 : σ.loc "column" = some (.int (column : Int))) (h7 : σ.loc "screen" = some (.ref a)) (h8 : σ.H a = some ⟨true, xs⟩) (h9 : Q .next ⟨σ.loc.set "count" (.int (((if tr then (xs.length - 1) / column else 0) + 1 : Nat) : Int)), σ.H⟩) : CntS σ Q
inductive WdS (σ : St) (Q : Fl → St → Prop) : Prop
  | mk (M column : Nat) (a : Addr) (xs : List PV) (h0 : xs.length ≤ 1000) (h1 : σ.loc "count" = some (.int ((M + 1 : Nat) : Int))) (h2 : σ.loc "column" = some (.int (column : Int))) (h3 : σ.loc "screen" = some (.ref a)) (h4 : σ.H a = some ⟨true, xs⟩) (h5 : Q .next ⟨σ.loc.set "wide" (.int ((if M + 1 = 1 then xs.length else column : Nat) : Int)), σ.H⟩) : WdS σ Q
noncomputable def keptP : PV := .tup [.int 1, .str (Str.ofString "kept")]
inductive ChkS (σ : St) (Q : Fl → St → Prop) : Prop
  | mk (number : PV) (tr : Bool) (t : Addr) (P : List (List Nat)) (M : Nat) (h0 : OkNum number tr) (h1 : P.length = M + 1) (h2 : M ≤ 400) (h3 : σ.loc "number" = some number) (h4 : σ.loc "told" = some (.ref t)) (h5 : σ.loc "count" = some (.int ((M + 1 : Nat) : Int))) (h6 : σ.H t = some ⟨true, keptP :: rowsOf number P⟩) (h7 : Q .next σ) : ChkS σ Q
inductive LoopS (σ : St) (Q : Fl → St → Prop) : Prop
  | mk (T : List Tk) (cs : Cells) (M wd : Nat) (t : Addr) (rows : List PV) (h0 : PW [] T) (h1 : mkF [] T = []) (h2 : cellsOf [] T = cs) (h3 : cs.length ≤ 1000) (h4 : (flat T).length ≤ 2000) (h5 : (∀ x ∈ cs, x.1 < 128 ∧ ∀ c ∈ x.2, c < 128)) (h6 : (M = 0 ∨ M * wd < cs.length)) (h7 : cs.length ≤ (M + 1) * wd) (h8 : M ≤ 400) (h9 : 1 ≤ wd) (h10 : wd ≤ 400) (h11 : rows.length ≤ 1000) (h12 : σ.loc "count" = some (.int ((M + 1 : Nat) : Int))) (h13 : σ.loc "wide" = some (.int (wd : Int))) (h14 : σ.loc "told" = some (.ref t)) (h15 : σ.loc "cells" = some (.lst (cs.map cellP))) (h16 : σ.loc "whole" = some (.str (mkS []))) (h17 : σ.H t = some ⟨true, keptP :: rows⟩) (h18 : (∀ j, j ≤ M → ∃ x, rows[j]? = some (.tup [x, .str (mkS (pcn wd M T j))]))) (h19 : ∀ σ', SmL ["k", "row", "mark", "whole"] σ σ' → σ'.loc "whole" = some (.str (mkS (flat T))) → Q .next σ') : LoopS σ Q
inductive SufS (σ : St) (Q : Fl → St → Prop) : Prop
  | mk (way : Int) (size column : Nat) (number : PV) (tr : Bool) (line : List Nat) (M : List (List Nat)) (a b : Addr) (P : Pre11 way size column number tr line M a b σ) (hsh : σ.loc "shown" = some (.str (mkS (scr size line)))) (hQ : ∀ σ', Q (.ret (.bool true)) σ') : SufS σ Q
theorem OkNum.test {number : PV} {tr : Bool} (h : OkNum number tr) {H : LH} {R1 R2 : Prop} (h0 : tr = false → R1) (h1 : tr = true → R2) :
    cmpW .Eq number (.int 0) H fun c => if c = true then R1 else cmpW .Eq number (.str (mkS [])) H fun c => if c = true then R1 else R2 := by
  cases h with
  | one => refine cmp_eqI ?_; rw [if_neg (by decide)]; refine cmp_IS (fun _ h => by cases h) ?_; rw [if_neg (by decide)]; exact h1 rfl
  | more => refine cmp_eqI ?_; rw [if_neg (by decide)]; refine cmp_IS (fun _ h => by cases h) ?_; rw [if_neg (by decide)]; exact h1 rfl
  | zero => refine cmp_eqI ?_; rw [if_pos (by decide)]; exact h0 rfl
  | no => refine cmp_SI (fun _ h => by cases h) ?_; rw [if_neg (by decide)]; refine cmp_eqS ?_; rw [if_pos (by rw [mkS_beq]; decide)]; exact h0 rfl
theorem OkNum.truth {p : PV} {t : Bool} (h : OkNum p t) : ∀ (H : LH) (R : Bool → Prop), R t → truthW p H R := by
  intro H R hR
  cases h with
  | one => exact hR
  | more => exact hR
  | zero => exact hR
  | no => exact ⟨by rw [mkS_len]; decide, by rw [mkS_len]; exact hR⟩
theorem OkNum.gd {p : PV} {t : Bool} (h : OkNum p t) (H : LH) (n : Nat) : Gd H n p := by
  cases h with
  | one => exact .int n _
  | more => exact .int n _
  | zero => exact .int n _
  | no => exact .str n (strOk_mk fun _ h => by cases h)
theorem law11 : Mine.ownRow.Holds := hd11 (by
  k_fill
  intro w s₀ s₁ mg mb G Y fa o pm cd doc dV kV ho hd hcd hD hmg hg args vals as hpre hlay hrd hwl hlo
  have KX := km_in_of Y
  rw [Mine.kfrag_eq] at KX
  km_tabs Y
  have X := (Ground.X G).1
  have V := (Ground.X G).2
  refine Ground.open G ?_
  intro T B D TE TW
  try (refine guard_noD D (by decide +kernel) ?_; clear D)
  km_lay T hmg ho hd cd
  clear hmg
  wrow_args hpre hlay hrd hwl hlo
  all_goals (
    first | refine callC_kw (enter_call ?_) | refine enter_call ?_
    w_top on
    kn_posts
    w_call any ho hd hcd hD T F
    clear hd
    kn_ghosts F T
    k_drop
    skip)
  rename Frag.In _ (ghostOf _ _) => X'
  rename Top topProg _ _ _ _ _ => T'
  rename Fr _ _ _ _ => F'
  rename News _ _ _ _ => N'
  rename Well _ _ _ _ => W1
  rename World => w
  rename ¬ _ < _ => hcond
  cases W1 with
  | list eA wA =>
    have hA := ghost_get hT9 eA (fun h => by cases h)
    have G : Gr (Mine.kcap.heap_1 w.params) _ := ⟨X', ⟨_, T'.g⟩, ⟨_, T'.b, T'.builtins⟩, T'.nolimit⟩
    have hI' := ints_of_well wA
    clear wA
    have hP55 := N'.get (.head _)
    have hZ55 := N'.fresh (.head _)
    obtain ⟨Fm, hFm, hmk⟩ := marked11 w
    obtain ⟨Fr, hFr, hrd⟩ := read11 w
    refine' xs_app (n := 400) (pre := [_, _, _, _, _, _, _, _]) (rest := [_, _, _, _, _, _, _, _, _, _]) (Q := Post11) ?hX ?rm ?S0 ?pre ?post
    case S0 =>
      refine' start_ok F' ?k1 ?k2 ?k3 ?k4 ?k5 hA hI'
      case k1 => rfl
      case k2 => intro n c hm; cases hm
      case k3 => exact List.nodup_nil
      case k4 => rfl
      case k5 => rfl
    case rm => exact ⟨rfl, (by decide : callerA.depth + 1 + 400 < recursionLimit), (by decide : callerA.units + 3 + 80 + 8 * 400 < cLine)⟩
    case hX =>
      with_reducible refine' xs_cons ?sp0 ?tp0
      case sp0 =>
        refine' ExOk.mono (F' := WayS) ?moWayS ?mmWayS
        case moWayS =>
          repeat' (first | with_reducible exact ev_int _ _ _ | with_reducible exact ev_str _ _ _ | with_reducible exact ev_none _ _ | with_reducible exact ev_bool _ _ _ | (with_reducible refine' ev_name _ _ ?_ ?_) | (with_reducible refine' ev_binop ?_ ?_) | (with_reducible refine' ev_neg ?_) | (with_reducible refine' ev_cmp ?_ ?_ ?_) | (with_reducible refine' ev_ifexp ?_ ?_ ?_) | (with_reducible refine' ev_list ?_) | (with_reducible refine' ev_tuple ?_) | with_reducible exact es_nil | (with_reducible refine' es_cons ?_ ?_ ?_) | (with_reducible refine' ev_cut ?_ ?_ ?_) | (with_reducible refine' ev_idx ?_ ?_ ?_) | with_reducible exact pt_none | (with_reducible refine' pt_some ?_) | (with_reducible refine' bt_cmp ?_ ?_ ?_) | (with_reducible refine' bt_not ?_) | (with_reducible refine' bt_bool ?_) | with_reducible exact at_and_nil | with_reducible exact at_or_nil | (with_reducible refine' at_and_cons ?_ ?_) | (with_reducible refine' at_or_cons ?_ ?_) | with_reducible exact xs_nil | (with_reducible refine' xs_cons ?_ ?_) | (with_reducible refine' st_assign ?_ ?_ ?_) | (with_reducible refine' st_aug ?_ ?_ ?_) | (with_reducible refine' st_if ?_ ?_ ?_) | (with_reducible refine' st_append ?_ ?_ ?_ ?_ ?_ ?_) | (with_reducible refine' st_augidx ?_ ?_ ?_ ?_) | (with_reducible refine' st_ret ?_) | with_reducible exact st_ret0 | with_reducible exact st_cont | with_reducible exact st_pass | (with_reducible refine' st_while ?_ ?_) | (with_reducible refine' st_for ?_ (as_name ?_) ?_ ?_ ?_) | (with_reducible refine' ev_len (by assumption) ?_ ?_ ?_ ?_ ?_ ?_ ?_ ?_) | (with_reducible refine' ev_chr (by assumption) ?_ ?_ ?_ ?_ ?_ ?_ ?_ ?_) | (with_reducible refine' ev_range (by assumption) ?_ ?_ ?_ ?_ ?_ ?_ ?_ ?_) | (with_reducible refine' ev_abs (by assumption) ?_ ?_ ?_ ?_ ?_ ?_ ?_ ?_) | (with_reducible refine' ev_count _ ?_ ?_ ?_ ?_ ?_) | (with_reducible refine' ev_split _ ?_ ?_ ?_ ?_ ?_) | (with_reducible refine' ev_index _ ?_ ?_ ?_ ?_) | (with_reducible refine' ev_attr (C := 111) (by assumption) ?_ ?_ ?_ ?_ ?_ ?_) | (with_reducible refine' st_swap2 (x := "row") (y := "whole") ?_ ?_ ?_ ?_ ?_) | (with_reducible refine' ev_fn (x := Str.ofString "_law_read") (f := 127) (by assumption) (by assumption) ?_ ?_ ?_ ?_ ?_ ?_ ?_ ?_ ?_) | (with_reducible refine' st_extend ?_ ?_ ?_ ?_ ?_ ?_) | (with_reducible refine' ev_html (by assumption) ?_ ?_ ?_ ?_ ?_ ?_ ?_) | (with_reducible refine' st_split _ 380 (by assumption) ?_ ?_ ?_ ?_ ?_ ?_ ?_ ?_) | with_reducible exact ts_nil | (with_reducible refine' ts_one ?_) | ((with_reducible show nsIn _ _ _ = _); k_is) | ((with_reducible show plainGet _ _ _ = _); k_is) | ((with_reducible show hasDictIn _ _ = _); k_is) | ((with_reducible show findIn _ _ _ = _); k_is) | ((with_reducible show noGet _ _ = _); k_is) | ((with_reducible show Stores _ _); first | exact Or.inl rfl | exact Or.inr ⟨rfl, rfl⟩) | ((with_reducible show (_ == _) = false); decide) | ((with_reducible show behindInMarks _ _ = _); with_unfolding_all rfl) | ((with_reducible show _ ≤ _); decide) | ((with_reducible show _ = _); rfl) | ((with_reducible show ∀ _, _ = _); intro _; rfl) | ((with_reducible show ∀ _ _, _ = _); intro _ _; rfl) | ((with_reducible show ∀ _ _ _, _ = _); intro _ _ _; rfl) | (with_reducible refine' bt_val ?_ ?_))
        case mmWayS =>
          intro σ Q hh
          refine hide fun Gh kh => ?_
          obtain ⟨ws, n1, hw, hQ⟩ := hh
          refine kh ?_
          clear kh Gh
          refine get_W n1 ⟨_, rfl, by rw [List.length_map]; (first | lia | omega), ?_⟩
          cases ws with
          | nil => exact hQ 0
          | cons x r => exact get_W n1 (idx_L (k := 0) (p := .int x) rfl (by rw [List.length_map]; (first | lia | omega)) (hQ x))
      case tp0 =>
        with_reducible refine' xs_cons ?sp1 ?tp1
        case sp1 =>
          repeat' (first | with_reducible exact ev_int _ _ _ | with_reducible exact ev_str _ _ _ | with_reducible exact ev_none _ _ | with_reducible exact ev_bool _ _ _ | (with_reducible refine' ev_name _ _ ?_ ?_) | (with_reducible refine' ev_binop ?_ ?_) | (with_reducible refine' ev_neg ?_) | (with_reducible refine' ev_cmp ?_ ?_ ?_) | (with_reducible refine' ev_ifexp ?_ ?_ ?_) | (with_reducible refine' ev_list ?_) | (with_reducible refine' ev_tuple ?_) | with_reducible exact es_nil | (with_reducible refine' es_cons ?_ ?_ ?_) | (with_reducible refine' ev_cut ?_ ?_ ?_) | (with_reducible refine' ev_idx ?_ ?_ ?_) | with_reducible exact pt_none | (with_reducible refine' pt_some ?_) | (with_reducible refine' bt_cmp ?_ ?_ ?_) | (with_reducible refine' bt_not ?_) | (with_reducible refine' bt_bool ?_) | with_reducible exact at_and_nil | with_reducible exact at_or_nil | (with_reducible refine' at_and_cons ?_ ?_) | (with_reducible refine' at_or_cons ?_ ?_) | with_reducible exact xs_nil | (with_reducible refine' xs_cons ?_ ?_) | (with_reducible refine' st_assign ?_ ?_ ?_) | (with_reducible refine' st_aug ?_ ?_ ?_) | (with_reducible refine' st_if ?_ ?_ ?_) | (with_reducible refine' st_append ?_ ?_ ?_ ?_ ?_ ?_) | (with_reducible refine' st_augidx ?_ ?_ ?_ ?_) | (with_reducible refine' st_ret ?_) | with_reducible exact st_ret0 | with_reducible exact st_cont | with_reducible exact st_pass | (with_reducible refine' st_while ?_ ?_) | (with_reducible refine' st_for ?_ (as_name ?_) ?_ ?_ ?_) | (with_reducible refine' ev_len (by assumption) ?_ ?_ ?_ ?_ ?_ ?_ ?_ ?_) | (with_reducible refine' ev_chr (by assumption) ?_ ?_ ?_ ?_ ?_ ?_ ?_ ?_) | (with_reducible refine' ev_range (by assumption) ?_ ?_ ?_ ?_ ?_ ?_ ?_ ?_) | (with_reducible refine' ev_abs (by assumption) ?_ ?_ ?_ ?_ ?_ ?_ ?_ ?_) | (with_reducible refine' ev_count _ ?_ ?_ ?_ ?_ ?_) | (with_reducible refine' ev_split _ ?_ ?_ ?_ ?_ ?_) | (with_reducible refine' ev_index _ ?_ ?_ ?_ ?_) | (with_reducible refine' ev_attr (C := 111) (by assumption) ?_ ?_ ?_ ?_ ?_ ?_) | (with_reducible refine' st_swap2 (x := "row") (y := "whole") ?_ ?_ ?_ ?_ ?_) | (with_reducible refine' ev_fn (x := Str.ofString "_law_read") (f := 127) (by assumption) (by assumption) ?_ ?_ ?_ ?_ ?_ ?_ ?_ ?_ ?_) | (with_reducible refine' st_extend ?_ ?_ ?_ ?_ ?_ ?_) | (with_reducible refine' ev_html (by assumption) ?_ ?_ ?_ ?_ ?_ ?_ ?_) | (with_reducible refine' st_split _ 380 (by assumption) ?_ ?_ ?_ ?_ ?_ ?_ ?_ ?_) | with_reducible exact ts_nil | (with_reducible refine' ts_one ?_) | ((with_reducible show nsIn _ _ _ = _); k_is) | ((with_reducible show plainGet _ _ _ = _); k_is) | ((with_reducible show hasDictIn _ _ = _); k_is) | ((with_reducible show findIn _ _ _ = _); k_is) | ((with_reducible show noGet _ _ = _); k_is) | ((with_reducible show Stores _ _); first | exact Or.inl rfl | exact Or.inr ⟨rfl, rfl⟩) | ((with_reducible show (_ == _) = false); decide) | ((with_reducible show behindInMarks _ _ = _); with_unfolding_all rfl) | ((with_reducible show _ ≤ _); decide) | ((with_reducible show _ = _); rfl) | ((with_reducible show ∀ _, _ = _); intro _; rfl) | ((with_reducible show ∀ _ _, _ = _); intro _ _; rfl) | ((with_reducible show ∀ _ _ _, _ = _); intro _ _ _; rfl) | (with_reducible refine' bt_val ?_ ?_))
        case tp1 =>
          with_reducible refine' xs_cons ?sp2 ?tp2
          case sp2 =>
            refine' ExOk.mono (F' := NumS) ?moNumS ?mmNumS
            case moNumS =>
              repeat' (first | with_reducible exact ev_int _ _ _ | with_reducible exact ev_str _ _ _ | with_reducible exact ev_none _ _ | with_reducible exact ev_bool _ _ _ | (with_reducible refine' ev_name _ _ ?_ ?_) | (with_reducible refine' ev_binop ?_ ?_) | (with_reducible refine' ev_neg ?_) | (with_reducible refine' ev_cmp ?_ ?_ ?_) | (with_reducible refine' ev_ifexp ?_ ?_ ?_) | (with_reducible refine' ev_list ?_) | (with_reducible refine' ev_tuple ?_) | with_reducible exact es_nil | (with_reducible refine' es_cons ?_ ?_ ?_) | (with_reducible refine' ev_cut ?_ ?_ ?_) | (with_reducible refine' ev_idx ?_ ?_ ?_) | with_reducible exact pt_none | (with_reducible refine' pt_some ?_) | (with_reducible refine' bt_cmp ?_ ?_ ?_) | (with_reducible refine' bt_not ?_) | (with_reducible refine' bt_bool ?_) | with_reducible exact at_and_nil | with_reducible exact at_or_nil | (with_reducible refine' at_and_cons ?_ ?_) | (with_reducible refine' at_or_cons ?_ ?_) | with_reducible exact xs_nil | (with_reducible refine' xs_cons ?_ ?_) | (with_reducible refine' st_assign ?_ ?_ ?_) | (with_reducible refine' st_aug ?_ ?_ ?_) | (with_reducible refine' st_if ?_ ?_ ?_) | (with_reducible refine' st_append ?_ ?_ ?_ ?_ ?_ ?_) | (with_reducible refine' st_augidx ?_ ?_ ?_ ?_) | (with_reducible refine' st_ret ?_) | with_reducible exact st_ret0 | with_reducible exact st_cont | with_reducible exact st_pass | (with_reducible refine' st_while ?_ ?_) | (with_reducible refine' st_for ?_ (as_name ?_) ?_ ?_ ?_) | (with_reducible refine' ev_len (by assumption) ?_ ?_ ?_ ?_ ?_ ?_ ?_ ?_) | (with_reducible refine' ev_chr (by assumption) ?_ ?_ ?_ ?_ ?_ ?_ ?_ ?_) | (with_reducible refine' ev_range (by assumption) ?_ ?_ ?_ ?_ ?_ ?_ ?_ ?_) | (with_reducible refine' ev_abs (by assumption) ?_ ?_ ?_ ?_ ?_ ?_ ?_ ?_) | (with_reducible refine' ev_count _ ?_ ?_ ?_ ?_ ?_) | (with_reducible refine' ev_split _ ?_ ?_ ?_ ?_ ?_) | (with_reducible refine' ev_index _ ?_ ?_ ?_ ?_) | (with_reducible refine' ev_attr (C := 111) (by assumption) ?_ ?_ ?_ ?_ ?_ ?_) | (with_reducible refine' st_swap2 (x := "row") (y := "whole") ?_ ?_ ?_ ?_ ?_) | (with_reducible refine' ev_fn (x := Str.ofString "_law_read") (f := 127) (by assumption) (by assumption) ?_ ?_ ?_ ?_ ?_ ?_ ?_ ?_ ?_) | (with_reducible refine' st_extend ?_ ?_ ?_ ?_ ?_ ?_) | (with_reducible refine' ev_html (by assumption) ?_ ?_ ?_ ?_ ?_ ?_ ?_) | (with_reducible refine' st_split _ 380 (by assumption) ?_ ?_ ?_ ?_ ?_ ?_ ?_ ?_) | with_reducible exact ts_nil | (with_reducible refine' ts_one ?_) | ((with_reducible show nsIn _ _ _ = _); k_is) | ((with_reducible show plainGet _ _ _ = _); k_is) | ((with_reducible show hasDictIn _ _ = _); k_is) | ((with_reducible show findIn _ _ _ = _); k_is) | ((with_reducible show noGet _ _ = _); k_is) | ((with_reducible show Stores _ _); first | exact Or.inl rfl | exact Or.inr ⟨rfl, rfl⟩) | ((with_reducible show (_ == _) = false); decide) | ((with_reducible show behindInMarks _ _ = _); with_unfolding_all rfl) | ((with_reducible show _ ≤ _); decide) | ((with_reducible show _ = _); rfl) | ((with_reducible show ∀ _, _ = _); intro _; rfl) | ((with_reducible show ∀ _ _, _ = _); intro _ _; rfl) | ((with_reducible show ∀ _ _ _, _ = _); intro _ _ _; rfl) | (with_reducible refine' bt_val ?_ ?_))
            case mmNumS =>
              intro σ Q hh
              refine hide fun Gh kh => ?_
              obtain ⟨ns, n1, hn, hQ⟩ := hh
              refine kh ?_
              clear kh Gh
              refine get_W n1 (len_L (by rw [List.length_map]; (first | lia | omega)) (cmp_ltI ?_))
              rw [List.length_map]
              by_cases h : (ns.length : Int) < 2
              · refine PySem.W.ite_pos (by simpa using h) (seq_to ⟨σ.loc.set "numbers" (.lst ((ns ++ [10, 8, 9, 10]).map .int)), σ.H⟩ (fun R hR => ?_) ?_)
                · exact get_W n1 ⟨by rw [sizeLine_eq]; simp, listW_lst (bin_addLL (by rw [List.length_map, sizeLine_eq]; simp; (first | lia | omega)) (listW_lst (by rw [List.map_append] at hR; exact hR)))⟩
                · exact hQ (ns ++ [10, 8, 9, 10]) (by simp only [List.length_append, List.length_cons, List.length_nil]; (first | lia | omega)) (by simp only [List.length_append, List.length_cons, List.length_nil]; (first | lia | omega)) _ ((SmL.refl _ σ).set (by decide)) rfl rfl
              · exact PySem.W.ite_neg (by simpa using h) (hQ ns (by (first | lia | omega)) hn _ (fun _ _ => rfl) rfl n1)
          case tp2 =>
            with_reducible refine' xs_cons ?sp3 ?tp3
            case sp3 =>
              refine' ExOk.mono (F' := Sw3S) ?moSw3S ?mmSw3S
              case moSw3S =>
                refine' st_swap3 (x := "size") (y := "column") (u := "number") ?_ rfl rfl ?_ ?_ ?_
                all_goals repeat' (first | with_reducible exact ev_int _ _ _ | with_reducible exact ev_str _ _ _ | with_reducible exact ev_none _ _ | with_reducible exact ev_bool _ _ _ | (with_reducible refine' ev_name _ _ ?_ ?_) | (with_reducible refine' ev_binop ?_ ?_) | (with_reducible refine' ev_neg ?_) | (with_reducible refine' ev_cmp ?_ ?_ ?_) | (with_reducible refine' ev_ifexp ?_ ?_ ?_) | (with_reducible refine' ev_list ?_) | (with_reducible refine' ev_tuple ?_) | with_reducible exact es_nil | (with_reducible refine' es_cons ?_ ?_ ?_) | (with_reducible refine' ev_cut ?_ ?_ ?_) | (with_reducible refine' ev_idx ?_ ?_ ?_) | with_reducible exact pt_none | (with_reducible refine' pt_some ?_) | (with_reducible refine' bt_cmp ?_ ?_ ?_) | (with_reducible refine' bt_not ?_) | (with_reducible refine' bt_bool ?_) | with_reducible exact at_and_nil | with_reducible exact at_or_nil | (with_reducible refine' at_and_cons ?_ ?_) | (with_reducible refine' at_or_cons ?_ ?_) | with_reducible exact xs_nil | (with_reducible refine' xs_cons ?_ ?_) | (with_reducible refine' st_assign ?_ ?_ ?_) | (with_reducible refine' st_aug ?_ ?_ ?_) | (with_reducible refine' st_if ?_ ?_ ?_) | (with_reducible refine' st_append ?_ ?_ ?_ ?_ ?_ ?_) | (with_reducible refine' st_augidx ?_ ?_ ?_ ?_) | (with_reducible refine' st_ret ?_) | with_reducible exact st_ret0 | with_reducible exact st_cont | with_reducible exact st_pass | (with_reducible refine' st_while ?_ ?_) | (with_reducible refine' st_for ?_ (as_name ?_) ?_ ?_ ?_) | (with_reducible refine' ev_len (by assumption) ?_ ?_ ?_ ?_ ?_ ?_ ?_ ?_) | (with_reducible refine' ev_chr (by assumption) ?_ ?_ ?_ ?_ ?_ ?_ ?_ ?_) | (with_reducible refine' ev_range (by assumption) ?_ ?_ ?_ ?_ ?_ ?_ ?_ ?_) | (with_reducible refine' ev_abs (by assumption) ?_ ?_ ?_ ?_ ?_ ?_ ?_ ?_) | (with_reducible refine' ev_count _ ?_ ?_ ?_ ?_ ?_) | (with_reducible refine' ev_split _ ?_ ?_ ?_ ?_ ?_) | (with_reducible refine' ev_index _ ?_ ?_ ?_ ?_) | (with_reducible refine' ev_attr (C := 111) (by assumption) ?_ ?_ ?_ ?_ ?_ ?_) | (with_reducible refine' st_swap2 (x := "row") (y := "whole") ?_ ?_ ?_ ?_ ?_) | (with_reducible refine' ev_fn (x := Str.ofString "_law_read") (f := 127) (by assumption) (by assumption) ?_ ?_ ?_ ?_ ?_ ?_ ?_ ?_ ?_) | (with_reducible refine' st_extend ?_ ?_ ?_ ?_ ?_ ?_) | (with_reducible refine' ev_html (by assumption) ?_ ?_ ?_ ?_ ?_ ?_ ?_) | (with_reducible refine' st_split _ 380 (by assumption) ?_ ?_ ?_ ?_ ?_ ?_ ?_ ?_) | with_reducible exact ts_nil | (with_reducible refine' ts_one ?_) | ((with_reducible show nsIn _ _ _ = _); k_is) | ((with_reducible show plainGet _ _ _ = _); k_is) | ((with_reducible show hasDictIn _ _ = _); k_is) | ((with_reducible show findIn _ _ _ = _); k_is) | ((with_reducible show noGet _ _ = _); k_is) | ((with_reducible show Stores _ _); first | exact Or.inl rfl | exact Or.inr ⟨rfl, rfl⟩) | ((with_reducible show (_ == _) = false); decide) | ((with_reducible show behindInMarks _ _ = _); with_unfolding_all rfl) | ((with_reducible show _ ≤ _); decide) | ((with_reducible show _ = _); rfl) | ((with_reducible show ∀ _, _ = _); intro _; rfl) | ((with_reducible show ∀ _ _, _ = _); intro _ _; rfl) | ((with_reducible show ∀ _ _ _, _ = _); intro _ _ _; rfl) | (with_reducible refine' bt_val ?_ ?_))
              case mmSw3S =>
                intro σ Q hh
                refine hide fun Gh kh => ?_
                obtain ⟨way, n1, hQ⟩ := hh
                refine kh ?_
                clear kh Gh
                have h6 := fm_ok way (k := 6) (by decide)
                have h12 := fm_ok (way.fdiv 6) (k := 12) (by decide)
                have h4 := fm_ok (way.fdiv 72) (k := 4) (by decide)
                have fin : ∀ number tr, OkNum number tr → Q .next ⟨((σ.loc.set "number" number).set "column" (.int ((way.fdiv 6).fmod 12 + 1))).set "size" (.int (way.fmod 6 + 1)), σ.H⟩ := fun number tr h => by
                  obtain ⟨s, hs⟩ : ∃ s : Nat, way.fmod 6 + 1 = s := ⟨(way.fmod 6 + 1).toNat, by (first | lia | omega)⟩
                  obtain ⟨c, hc⟩ : ∃ s : Nat, (way.fdiv 6).fmod 12 + 1 = s := ⟨((way.fdiv 6).fmod 12 + 1).toNat, by (first | lia | omega)⟩
                  rw [hs, hc]
                  exact hQ s c number tr (by (first | lia | omega)) (by (first | lia | omega)) (by (first | lia | omega)) (by (first | lia | omega)) h
                have hm : (way.fdiv 72).fmod 4 = 0 ∨ (way.fdiv 72).fmod 4 = 1 ∨ (way.fdiv 72).fmod 4 = 2 ∨ (way.fdiv 72).fmod 4 = 3 := by (first | lia | omega)
                rw [ofSe]
                refine get_W n1 (bin_modI (by decide) (bin_addI (get_W n1 (bin_divI (by decide) (by decide) (bin_modI (by decide) (bin_addI ?_))))))
                refine ⟨by rw [sizeLine_eq]; simp, listW_lst (get_W n1 (bin_divI (by decide) (by decide) (bin_modI (by decide) ?_)))⟩
                rcases hm with e | e | e | e
                · rw [e]; exact idx_L (k := 0) rfl (by simp) ⟨by rw [sizeLine_eq]; simp, _, _, _, rfl, fin _ _ .one⟩
                · rw [e]; exact idx_L (k := 1) rfl (by simp) ⟨by rw [sizeLine_eq]; simp, _, _, _, rfl, fin _ _ .more⟩
                · rw [e]; exact idx_L (k := 2) rfl (by simp) ⟨by rw [sizeLine_eq]; simp, _, _, _, rfl, fin _ _ .zero⟩
                · rw [e]; exact idx_L (k := 3) rfl (by simp) ⟨by rw [sizeLine_eq]; simp, _, _, _, rfl, fin _ _ .no⟩
            case tp3 =>
              with_reducible refine' xs_cons ?sp4 ?tp4
              case sp4 =>
                refine' st_swap3 (x := "line") (y := "screen") (u := "marks") ?_ rfl rfl ?_ ?_ ?_
                all_goals repeat' (first | with_reducible exact ev_int _ _ _ | with_reducible exact ev_str _ _ _ | with_reducible exact ev_none _ _ | with_reducible exact ev_bool _ _ _ | (with_reducible refine' ev_name _ _ ?_ ?_) | (with_reducible refine' ev_binop ?_ ?_) | (with_reducible refine' ev_neg ?_) | (with_reducible refine' ev_cmp ?_ ?_ ?_) | (with_reducible refine' ev_ifexp ?_ ?_ ?_) | (with_reducible refine' ev_list ?_) | (with_reducible refine' ev_tuple ?_) | with_reducible exact es_nil | (with_reducible refine' es_cons ?_ ?_ ?_) | (with_reducible refine' ev_cut ?_ ?_ ?_) | (with_reducible refine' ev_idx ?_ ?_ ?_) | with_reducible exact pt_none | (with_reducible refine' pt_some ?_) | (with_reducible refine' bt_cmp ?_ ?_ ?_) | (with_reducible refine' bt_not ?_) | (with_reducible refine' bt_bool ?_) | with_reducible exact at_and_nil | with_reducible exact at_or_nil | (with_reducible refine' at_and_cons ?_ ?_) | (with_reducible refine' at_or_cons ?_ ?_) | with_reducible exact xs_nil | (with_reducible refine' xs_cons ?_ ?_) | (with_reducible refine' st_assign ?_ ?_ ?_) | (with_reducible refine' st_aug ?_ ?_ ?_) | (with_reducible refine' st_if ?_ ?_ ?_) | (with_reducible refine' st_append ?_ ?_ ?_ ?_ ?_ ?_) | (with_reducible refine' st_augidx ?_ ?_ ?_ ?_) | (with_reducible refine' st_ret ?_) | with_reducible exact st_ret0 | with_reducible exact st_cont | with_reducible exact st_pass | (with_reducible refine' st_while ?_ ?_) | (with_reducible refine' st_for ?_ (as_name ?_) ?_ ?_ ?_) | (with_reducible refine' ev_len (by assumption) ?_ ?_ ?_ ?_ ?_ ?_ ?_ ?_) | (with_reducible refine' ev_chr (by assumption) ?_ ?_ ?_ ?_ ?_ ?_ ?_ ?_) | (with_reducible refine' ev_range (by assumption) ?_ ?_ ?_ ?_ ?_ ?_ ?_ ?_) | (with_reducible refine' ev_abs (by assumption) ?_ ?_ ?_ ?_ ?_ ?_ ?_ ?_) | (with_reducible refine' ev_count _ ?_ ?_ ?_ ?_ ?_) | (with_reducible refine' ev_split _ ?_ ?_ ?_ ?_ ?_) | (with_reducible refine' ev_index _ ?_ ?_ ?_ ?_) | (with_reducible refine' ev_attr (C := 111) (by assumption) ?_ ?_ ?_ ?_ ?_ ?_) | (with_reducible refine' st_swap2 (x := "row") (y := "whole") ?_ ?_ ?_ ?_ ?_) | (with_reducible refine' ev_fn (x := Str.ofString "_law_read") (f := 127) (by assumption) (by assumption) ?_ ?_ ?_ ?_ ?_ ?_ ?_ ?_ ?_) | (with_reducible refine' st_extend ?_ ?_ ?_ ?_ ?_ ?_) | (with_reducible refine' ev_html (by assumption) ?_ ?_ ?_ ?_ ?_ ?_ ?_) | (with_reducible refine' st_split _ 380 (by assumption) ?_ ?_ ?_ ?_ ?_ ?_ ?_ ?_) | with_reducible exact ts_nil | (with_reducible refine' ts_one ?_) | ((with_reducible show nsIn _ _ _ = _); k_is) | ((with_reducible show plainGet _ _ _ = _); k_is) | ((with_reducible show hasDictIn _ _ = _); k_is) | ((with_reducible show findIn _ _ _ = _); k_is) | ((with_reducible show noGet _ _ = _); k_is) | ((with_reducible show Stores _ _); first | exact Or.inl rfl | exact Or.inr ⟨rfl, rfl⟩) | ((with_reducible show (_ == _) = false); decide) | ((with_reducible show behindInMarks _ _ = _); with_unfolding_all rfl) | ((with_reducible show _ ≤ _); decide) | ((with_reducible show _ = _); rfl) | ((with_reducible show ∀ _, _ = _); intro _; rfl) | ((with_reducible show ∀ _ _, _ = _); intro _ _; rfl) | ((with_reducible show ∀ _ _ _, _ = _); intro _ _ _; rfl) | (with_reducible refine' bt_val ?_ ?_))
              case tp4 =>
                with_reducible refine' xs_cons ?sp5 ?tp5
                case sp5 =>
                  refine' ExOk.mono (F' := LpS) ?fw ?fm
                  case fw =>
                    with_reducible refine' st_for ?fi (as_name ?fk) ?fb ?fn ?fl
                    case fk => first | exact Or.inl rfl | exact Or.inr ⟨rfl, rfl⟩
                    case fn => intro _; rfl
                    case fl => intro _ _; rfl
                    case fi => repeat' (first | with_reducible exact ev_int _ _ _ | with_reducible exact ev_str _ _ _ | with_reducible exact ev_none _ _ | with_reducible exact ev_bool _ _ _ | (with_reducible refine' ev_name _ _ ?_ ?_) | (with_reducible refine' ev_binop ?_ ?_) | (with_reducible refine' ev_neg ?_) | (with_reducible refine' ev_cmp ?_ ?_ ?_) | (with_reducible refine' ev_ifexp ?_ ?_ ?_) | (with_reducible refine' ev_list ?_) | (with_reducible refine' ev_tuple ?_) | with_reducible exact es_nil | (with_reducible refine' es_cons ?_ ?_ ?_) | (with_reducible refine' ev_cut ?_ ?_ ?_) | (with_reducible refine' ev_idx ?_ ?_ ?_) | with_reducible exact pt_none | (with_reducible refine' pt_some ?_) | (with_reducible refine' bt_cmp ?_ ?_ ?_) | (with_reducible refine' bt_not ?_) | (with_reducible refine' bt_bool ?_) | with_reducible exact at_and_nil | with_reducible exact at_or_nil | (with_reducible refine' at_and_cons ?_ ?_) | (with_reducible refine' at_or_cons ?_ ?_) | with_reducible exact xs_nil | (with_reducible refine' xs_cons ?_ ?_) | (with_reducible refine' st_assign ?_ ?_ ?_) | (with_reducible refine' st_aug ?_ ?_ ?_) | (with_reducible refine' st_if ?_ ?_ ?_) | (with_reducible refine' st_append ?_ ?_ ?_ ?_ ?_ ?_) | (with_reducible refine' st_augidx ?_ ?_ ?_ ?_) | (with_reducible refine' st_ret ?_) | with_reducible exact st_ret0 | with_reducible exact st_cont | with_reducible exact st_pass | (with_reducible refine' st_while ?_ ?_) | (with_reducible refine' st_for ?_ (as_name ?_) ?_ ?_ ?_) | (with_reducible refine' ev_len (by assumption) ?_ ?_ ?_ ?_ ?_ ?_ ?_ ?_) | (with_reducible refine' ev_chr (by assumption) ?_ ?_ ?_ ?_ ?_ ?_ ?_ ?_) | (with_reducible refine' ev_range (by assumption) ?_ ?_ ?_ ?_ ?_ ?_ ?_ ?_) | (with_reducible refine' ev_abs (by assumption) ?_ ?_ ?_ ?_ ?_ ?_ ?_ ?_) | (with_reducible refine' ev_count _ ?_ ?_ ?_ ?_ ?_) | (with_reducible refine' ev_split _ ?_ ?_ ?_ ?_ ?_) | (with_reducible refine' ev_index _ ?_ ?_ ?_ ?_) | (with_reducible refine' ev_attr (C := 111) (by assumption) ?_ ?_ ?_ ?_ ?_ ?_) | (with_reducible refine' st_swap2 (x := "row") (y := "whole") ?_ ?_ ?_ ?_ ?_) | (with_reducible refine' ev_fn (x := Str.ofString "_law_read") (f := 127) (by assumption) (by assumption) ?_ ?_ ?_ ?_ ?_ ?_ ?_ ?_ ?_) | (with_reducible refine' st_extend ?_ ?_ ?_ ?_ ?_ ?_) | (with_reducible refine' ev_html (by assumption) ?_ ?_ ?_ ?_ ?_ ?_ ?_) | (with_reducible refine' st_split _ 380 (by assumption) ?_ ?_ ?_ ?_ ?_ ?_ ?_ ?_) | with_reducible exact ts_nil | (with_reducible refine' ts_one ?_) | ((with_reducible show nsIn _ _ _ = _); k_is) | ((with_reducible show plainGet _ _ _ = _); k_is) | ((with_reducible show hasDictIn _ _ = _); k_is) | ((with_reducible show findIn _ _ _ = _); k_is) | ((with_reducible show noGet _ _ = _); k_is) | ((with_reducible show Stores _ _); first | exact Or.inl rfl | exact Or.inr ⟨rfl, rfl⟩) | ((with_reducible show (_ == _) = false); decide) | ((with_reducible show behindInMarks _ _ = _); with_unfolding_all rfl) | ((with_reducible show _ ≤ _); decide) | ((with_reducible show _ = _); rfl) | ((with_reducible show ∀ _, _ = _); intro _; rfl) | ((with_reducible show ∀ _ _, _ = _); intro _ _; rfl) | ((with_reducible show ∀ _ _ _, _ = _); intro _ _ _; rfl) | (with_reducible refine' bt_val ?_ ?_))
                    case fb =>
                      with_reducible refine' xs_cons ?sc0 ?tc0
                      case sc0 =>
                        repeat' (first | with_reducible exact ev_int _ _ _ | with_reducible exact ev_str _ _ _ | with_reducible exact ev_none _ _ | with_reducible exact ev_bool _ _ _ | (with_reducible refine' ev_name _ _ ?_ ?_) | (with_reducible refine' ev_binop ?_ ?_) | (with_reducible refine' ev_neg ?_) | (with_reducible refine' ev_cmp ?_ ?_ ?_) | (with_reducible refine' ev_ifexp ?_ ?_ ?_) | (with_reducible refine' ev_list ?_) | (with_reducible refine' ev_tuple ?_) | with_reducible exact es_nil | (with_reducible refine' es_cons ?_ ?_ ?_) | (with_reducible refine' ev_cut ?_ ?_ ?_) | (with_reducible refine' ev_idx ?_ ?_ ?_) | with_reducible exact pt_none | (with_reducible refine' pt_some ?_) | (with_reducible refine' bt_cmp ?_ ?_ ?_) | (with_reducible refine' bt_not ?_) | (with_reducible refine' bt_bool ?_) | with_reducible exact at_and_nil | with_reducible exact at_or_nil | (with_reducible refine' at_and_cons ?_ ?_) | (with_reducible refine' at_or_cons ?_ ?_) | with_reducible exact xs_nil | (with_reducible refine' xs_cons ?_ ?_) | (with_reducible refine' st_assign ?_ ?_ ?_) | (with_reducible refine' st_aug ?_ ?_ ?_) | (with_reducible refine' st_if ?_ ?_ ?_) | (with_reducible refine' st_append ?_ ?_ ?_ ?_ ?_ ?_) | (with_reducible refine' st_augidx ?_ ?_ ?_ ?_) | (with_reducible refine' st_ret ?_) | with_reducible exact st_ret0 | with_reducible exact st_cont | with_reducible exact st_pass | (with_reducible refine' st_while ?_ ?_) | (with_reducible refine' st_for ?_ (as_name ?_) ?_ ?_ ?_) | (with_reducible refine' ev_len (by assumption) ?_ ?_ ?_ ?_ ?_ ?_ ?_ ?_) | (with_reducible refine' ev_chr (by assumption) ?_ ?_ ?_ ?_ ?_ ?_ ?_ ?_) | (with_reducible refine' ev_range (by assumption) ?_ ?_ ?_ ?_ ?_ ?_ ?_ ?_) | (with_reducible refine' ev_abs (by assumption) ?_ ?_ ?_ ?_ ?_ ?_ ?_ ?_) | (with_reducible refine' ev_count _ ?_ ?_ ?_ ?_ ?_) | (with_reducible refine' ev_split _ ?_ ?_ ?_ ?_ ?_) | (with_reducible refine' ev_index _ ?_ ?_ ?_ ?_) | (with_reducible refine' ev_attr (C := 111) (by assumption) ?_ ?_ ?_ ?_ ?_ ?_) | (with_reducible refine' st_swap2 (x := "row") (y := "whole") ?_ ?_ ?_ ?_ ?_) | (with_reducible refine' ev_fn (x := Str.ofString "_law_read") (f := 127) (by assumption) (by assumption) ?_ ?_ ?_ ?_ ?_ ?_ ?_ ?_ ?_) | (with_reducible refine' st_extend ?_ ?_ ?_ ?_ ?_ ?_) | (with_reducible refine' ev_html (by assumption) ?_ ?_ ?_ ?_ ?_ ?_ ?_) | (with_reducible refine' st_split _ 380 (by assumption) ?_ ?_ ?_ ?_ ?_ ?_ ?_ ?_) | with_reducible exact ts_nil | (with_reducible refine' ts_one ?_) | ((with_reducible show nsIn _ _ _ = _); k_is) | ((with_reducible show plainGet _ _ _ = _); k_is) | ((with_reducible show hasDictIn _ _ = _); k_is) | ((with_reducible show findIn _ _ _ = _); k_is) | ((with_reducible show noGet _ _ = _); k_is) | ((with_reducible show Stores _ _); first | exact Or.inl rfl | exact Or.inr ⟨rfl, rfl⟩) | ((with_reducible show (_ == _) = false); decide) | ((with_reducible show behindInMarks _ _ = _); with_unfolding_all rfl) | ((with_reducible show _ ≤ _); decide) | ((with_reducible show _ = _); rfl) | ((with_reducible show ∀ _, _ = _); intro _; rfl) | ((with_reducible show ∀ _ _, _ = _); intro _ _; rfl) | ((with_reducible show ∀ _ _ _, _ = _); intro _ _ _; rfl) | (with_reducible refine' bt_val ?_ ?_))
                      case tc0 =>
                        with_reducible refine' xs_cons ?sc1 ?tc1
                        case sc1 =>
                          repeat' (first | with_reducible exact ev_int _ _ _ | with_reducible exact ev_str _ _ _ | with_reducible exact ev_none _ _ | with_reducible exact ev_bool _ _ _ | (with_reducible refine' ev_name _ _ ?_ ?_) | (with_reducible refine' ev_binop ?_ ?_) | (with_reducible refine' ev_neg ?_) | (with_reducible refine' ev_cmp ?_ ?_ ?_) | (with_reducible refine' ev_ifexp ?_ ?_ ?_) | (with_reducible refine' ev_list ?_) | (with_reducible refine' ev_tuple ?_) | with_reducible exact es_nil | (with_reducible refine' es_cons ?_ ?_ ?_) | (with_reducible refine' ev_cut ?_ ?_ ?_) | (with_reducible refine' ev_idx ?_ ?_ ?_) | with_reducible exact pt_none | (with_reducible refine' pt_some ?_) | (with_reducible refine' bt_cmp ?_ ?_ ?_) | (with_reducible refine' bt_not ?_) | (with_reducible refine' bt_bool ?_) | with_reducible exact at_and_nil | with_reducible exact at_or_nil | (with_reducible refine' at_and_cons ?_ ?_) | (with_reducible refine' at_or_cons ?_ ?_) | with_reducible exact xs_nil | (with_reducible refine' xs_cons ?_ ?_) | (with_reducible refine' st_assign ?_ ?_ ?_) | (with_reducible refine' st_aug ?_ ?_ ?_) | (with_reducible refine' st_if ?_ ?_ ?_) | (with_reducible refine' st_append ?_ ?_ ?_ ?_ ?_ ?_) | (with_reducible refine' st_augidx ?_ ?_ ?_ ?_) | (with_reducible refine' st_ret ?_) | with_reducible exact st_ret0 | with_reducible exact st_cont | with_reducible exact st_pass | (with_reducible refine' st_while ?_ ?_) | (with_reducible refine' st_for ?_ (as_name ?_) ?_ ?_ ?_) | (with_reducible refine' ev_len (by assumption) ?_ ?_ ?_ ?_ ?_ ?_ ?_ ?_) | (with_reducible refine' ev_chr (by assumption) ?_ ?_ ?_ ?_ ?_ ?_ ?_ ?_) | (with_reducible refine' ev_range (by assumption) ?_ ?_ ?_ ?_ ?_ ?_ ?_ ?_) | (with_reducible refine' ev_abs (by assumption) ?_ ?_ ?_ ?_ ?_ ?_ ?_ ?_) | (with_reducible refine' ev_count _ ?_ ?_ ?_ ?_ ?_) | (with_reducible refine' ev_split _ ?_ ?_ ?_ ?_ ?_) | (with_reducible refine' ev_index _ ?_ ?_ ?_ ?_) | (with_reducible refine' ev_attr (C := 111) (by assumption) ?_ ?_ ?_ ?_ ?_ ?_) | (with_reducible refine' st_swap2 (x := "row") (y := "whole") ?_ ?_ ?_ ?_ ?_) | (with_reducible refine' ev_fn (x := Str.ofString "_law_read") (f := 127) (by assumption) (by assumption) ?_ ?_ ?_ ?_ ?_ ?_ ?_ ?_ ?_) | (with_reducible refine' st_extend ?_ ?_ ?_ ?_ ?_ ?_) | (with_reducible refine' ev_html (by assumption) ?_ ?_ ?_ ?_ ?_ ?_ ?_) | (with_reducible refine' st_split _ 380 (by assumption) ?_ ?_ ?_ ?_ ?_ ?_ ?_ ?_) | with_reducible exact ts_nil | (with_reducible refine' ts_one ?_) | ((with_reducible show nsIn _ _ _ = _); k_is) | ((with_reducible show plainGet _ _ _ = _); k_is) | ((with_reducible show hasDictIn _ _ = _); k_is) | ((with_reducible show findIn _ _ _ = _); k_is) | ((with_reducible show noGet _ _ = _); k_is) | ((with_reducible show Stores _ _); first | exact Or.inl rfl | exact Or.inr ⟨rfl, rfl⟩) | ((with_reducible show (_ == _) = false); decide) | ((with_reducible show behindInMarks _ _ = _); with_unfolding_all rfl) | ((with_reducible show _ ≤ _); decide) | ((with_reducible show _ = _); rfl) | ((with_reducible show ∀ _, _ = _); intro _; rfl) | ((with_reducible show ∀ _ _, _ = _); intro _ _; rfl) | ((with_reducible show ∀ _ _ _, _ = _); intro _ _ _; rfl) | (with_reducible refine' bt_val ?_ ?_))
                        case tc1 =>
                          with_reducible refine' xs_cons ?sc2 ?tc2
                          case sc2 =>
                            repeat' (first | with_reducible exact ev_int _ _ _ | with_reducible exact ev_str _ _ _ | with_reducible exact ev_none _ _ | with_reducible exact ev_bool _ _ _ | (with_reducible refine' ev_name _ _ ?_ ?_) | (with_reducible refine' ev_binop ?_ ?_) | (with_reducible refine' ev_neg ?_) | (with_reducible refine' ev_cmp ?_ ?_ ?_) | (with_reducible refine' ev_ifexp ?_ ?_ ?_) | (with_reducible refine' ev_list ?_) | (with_reducible refine' ev_tuple ?_) | with_reducible exact es_nil | (with_reducible refine' es_cons ?_ ?_ ?_) | (with_reducible refine' ev_cut ?_ ?_ ?_) | (with_reducible refine' ev_idx ?_ ?_ ?_) | with_reducible exact pt_none | (with_reducible refine' pt_some ?_) | (with_reducible refine' bt_cmp ?_ ?_ ?_) | (with_reducible refine' bt_not ?_) | (with_reducible refine' bt_bool ?_) | with_reducible exact at_and_nil | with_reducible exact at_or_nil | (with_reducible refine' at_and_cons ?_ ?_) | (with_reducible refine' at_or_cons ?_ ?_) | with_reducible exact xs_nil | (with_reducible refine' xs_cons ?_ ?_) | (with_reducible refine' st_assign ?_ ?_ ?_) | (with_reducible refine' st_aug ?_ ?_ ?_) | (with_reducible refine' st_if ?_ ?_ ?_) | (with_reducible refine' st_append ?_ ?_ ?_ ?_ ?_ ?_) | (with_reducible refine' st_augidx ?_ ?_ ?_ ?_) | (with_reducible refine' st_ret ?_) | with_reducible exact st_ret0 | with_reducible exact st_cont | with_reducible exact st_pass | (with_reducible refine' st_while ?_ ?_) | (with_reducible refine' st_for ?_ (as_name ?_) ?_ ?_ ?_) | (with_reducible refine' ev_len (by assumption) ?_ ?_ ?_ ?_ ?_ ?_ ?_ ?_) | (with_reducible refine' ev_chr (by assumption) ?_ ?_ ?_ ?_ ?_ ?_ ?_ ?_) | (with_reducible refine' ev_range (by assumption) ?_ ?_ ?_ ?_ ?_ ?_ ?_ ?_) | (with_reducible refine' ev_abs (by assumption) ?_ ?_ ?_ ?_ ?_ ?_ ?_ ?_) | (with_reducible refine' ev_count _ ?_ ?_ ?_ ?_ ?_) | (with_reducible refine' ev_split _ ?_ ?_ ?_ ?_ ?_) | (with_reducible refine' ev_index _ ?_ ?_ ?_ ?_) | (with_reducible refine' ev_attr (C := 111) (by assumption) ?_ ?_ ?_ ?_ ?_ ?_) | (with_reducible refine' st_swap2 (x := "row") (y := "whole") ?_ ?_ ?_ ?_ ?_) | (with_reducible refine' ev_fn (x := Str.ofString "_law_read") (f := 127) (by assumption) (by assumption) ?_ ?_ ?_ ?_ ?_ ?_ ?_ ?_ ?_) | (with_reducible refine' st_extend ?_ ?_ ?_ ?_ ?_ ?_) | (with_reducible refine' ev_html (by assumption) ?_ ?_ ?_ ?_ ?_ ?_ ?_) | (with_reducible refine' st_split _ 380 (by assumption) ?_ ?_ ?_ ?_ ?_ ?_ ?_ ?_) | with_reducible exact ts_nil | (with_reducible refine' ts_one ?_) | ((with_reducible show nsIn _ _ _ = _); k_is) | ((with_reducible show plainGet _ _ _ = _); k_is) | ((with_reducible show hasDictIn _ _ = _); k_is) | ((with_reducible show findIn _ _ _ = _); k_is) | ((with_reducible show noGet _ _ = _); k_is) | ((with_reducible show Stores _ _); first | exact Or.inl rfl | exact Or.inr ⟨rfl, rfl⟩) | ((with_reducible show (_ == _) = false); decide) | ((with_reducible show behindInMarks _ _ = _); with_unfolding_all rfl) | ((with_reducible show _ ≤ _); decide) | ((with_reducible show _ = _); rfl) | ((with_reducible show ∀ _, _ = _); intro _; rfl) | ((with_reducible show ∀ _ _, _ = _); intro _ _; rfl) | ((with_reducible show ∀ _ _ _, _ = _); intro _ _ _; rfl) | (with_reducible refine' bt_val ?_ ?_))
                          case tc2 =>
                            with_reducible refine' xs_cons ?sc3 ?tc3
                            case sc3 =>
                              refine' ExOk.mono (F' := WhS11) ?ww ?wm
                              case ww => repeat' (first | with_reducible exact ev_int _ _ _ | with_reducible exact ev_str _ _ _ | with_reducible exact ev_none _ _ | with_reducible exact ev_bool _ _ _ | (with_reducible refine' ev_name _ _ ?_ ?_) | (with_reducible refine' ev_binop ?_ ?_) | (with_reducible refine' ev_neg ?_) | (with_reducible refine' ev_cmp ?_ ?_ ?_) | (with_reducible refine' ev_ifexp ?_ ?_ ?_) | (with_reducible refine' ev_list ?_) | (with_reducible refine' ev_tuple ?_) | with_reducible exact es_nil | (with_reducible refine' es_cons ?_ ?_ ?_) | (with_reducible refine' ev_cut ?_ ?_ ?_) | (with_reducible refine' ev_idx ?_ ?_ ?_) | with_reducible exact pt_none | (with_reducible refine' pt_some ?_) | (with_reducible refine' bt_cmp ?_ ?_ ?_) | (with_reducible refine' bt_not ?_) | (with_reducible refine' bt_bool ?_) | with_reducible exact at_and_nil | with_reducible exact at_or_nil | (with_reducible refine' at_and_cons ?_ ?_) | (with_reducible refine' at_or_cons ?_ ?_) | with_reducible exact xs_nil | (with_reducible refine' xs_cons ?_ ?_) | (with_reducible refine' st_assign ?_ ?_ ?_) | (with_reducible refine' st_aug ?_ ?_ ?_) | (with_reducible refine' st_if ?_ ?_ ?_) | (with_reducible refine' st_append ?_ ?_ ?_ ?_ ?_ ?_) | (with_reducible refine' st_augidx ?_ ?_ ?_ ?_) | (with_reducible refine' st_ret ?_) | with_reducible exact st_ret0 | with_reducible exact st_cont | with_reducible exact st_pass | (with_reducible refine' st_while ?_ ?_) | (with_reducible refine' st_for ?_ (as_name ?_) ?_ ?_ ?_) | (with_reducible refine' ev_len (by assumption) ?_ ?_ ?_ ?_ ?_ ?_ ?_ ?_) | (with_reducible refine' ev_chr (by assumption) ?_ ?_ ?_ ?_ ?_ ?_ ?_ ?_) | (with_reducible refine' ev_range (by assumption) ?_ ?_ ?_ ?_ ?_ ?_ ?_ ?_) | (with_reducible refine' ev_abs (by assumption) ?_ ?_ ?_ ?_ ?_ ?_ ?_ ?_) | (with_reducible refine' ev_count _ ?_ ?_ ?_ ?_ ?_) | (with_reducible refine' ev_split _ ?_ ?_ ?_ ?_ ?_) | (with_reducible refine' ev_index _ ?_ ?_ ?_ ?_) | (with_reducible refine' ev_attr (C := 111) (by assumption) ?_ ?_ ?_ ?_ ?_ ?_) | (with_reducible refine' st_swap2 (x := "row") (y := "whole") ?_ ?_ ?_ ?_ ?_) | (with_reducible refine' ev_fn (x := Str.ofString "_law_read") (f := 127) (by assumption) (by assumption) ?_ ?_ ?_ ?_ ?_ ?_ ?_ ?_ ?_) | (with_reducible refine' st_extend ?_ ?_ ?_ ?_ ?_ ?_) | (with_reducible refine' ev_html (by assumption) ?_ ?_ ?_ ?_ ?_ ?_ ?_) | (with_reducible refine' st_split _ 380 (by assumption) ?_ ?_ ?_ ?_ ?_ ?_ ?_ ?_) | with_reducible exact ts_nil | (with_reducible refine' ts_one ?_) | ((with_reducible show nsIn _ _ _ = _); k_is) | ((with_reducible show plainGet _ _ _ = _); k_is) | ((with_reducible show hasDictIn _ _ = _); k_is) | ((with_reducible show findIn _ _ _ = _); k_is) | ((with_reducible show noGet _ _ = _); k_is) | ((with_reducible show Stores _ _); first | exact Or.inl rfl | exact Or.inr ⟨rfl, rfl⟩) | ((with_reducible show (_ == _) = false); decide) | ((with_reducible show behindInMarks _ _ = _); with_unfolding_all rfl) | ((with_reducible show _ ≤ _); decide) | ((with_reducible show _ = _); rfl) | ((with_reducible show ∀ _, _ = _); intro _; rfl) | ((with_reducible show ∀ _ _, _ = _); intro _ _; rfl) | ((with_reducible show ∀ _ _ _, _ = _); intro _ _ _; rfl) | (with_reducible refine' bt_val ?_ ?_))
                              case wm =>
                                intro σ Q hh
                                refine hide fun Gh kh => ?_
                                obtain ⟨s, c, size, a, hs1, hs6, hsl, n1, n2, n3, hH, hQ⟩ := hh
                                refine kh ?_
                                clear kh Gh
                                have hset : σ.H.set a ⟨true, (s ++ List.replicate 1 c).map chP⟩ = σ.H := LH.set_same (by rw [hH]; rfl)
                                have hmod := Nat.mod_lt s.length (show 0 < size by (first | lia | omega))
                                refine whileW_inv (fun k σ₁ => ∃ j, 1 ≤ j ∧ j + k = (if c = 9 then size - s.length % size else 1) ∧ σ₁ = ⟨σ.loc, σ.H.set a ⟨true, (s ++ List.replicate j c).map chP⟩⟩) ?step ((if c = 9 then size - s.length % size else 1) - 1) _ ?init
                                case init => exact ⟨1, Nat.le_refl _, by split <;> (first | lia | omega), by rw [hset]⟩
                                case step =>
                                  rintro k _ K ⟨j, hj1, hj, rfl⟩ kn kc
                                  rw [ofSt]
                                  refine get_W n1 (cmp_eqS ?_)
                                  rw [mkS_beq]
                                  by_cases h9 : c = 9
                                  · subst h9
                                    rw [if_pos rfl] at hj
                                    have hfm : ((((s ++ List.replicate j 9).map chP).length : Nat) : Int).fmod (size : Int) = (((s.length + j) % size : Nat) : Int) := by
                                      rw [List.length_map, List.length_append, List.length_replicate, fmod_nat]
                                    refine PySem.W.ite_pos (beq_self_eq_true _) (get_W n3 (len_R (LH.set_self _ _ _) (by simp; (first | lia | omega)) (get_W n2 (bin_modI (by (first | lia | omega)) (cmp_neI ?_)))))
                                    rw [hfm, bne0]
                                    by_cases hk : k = 0
                                    · subst hk
                                      have hz : (s.length + j) % size = 0 := by
                                        have e : s.length + j = size * (s.length / size + 1) := by
                                          have := Nat.div_add_mod s.length size
                                          rw [Nat.mul_add]; (first | lia | omega)
                                        rw [e]; exact Nat.mul_mod_right _ _
                                      unfold scrStep at hQ
                                      rw [if_pos rfl, ← (show j = size - s.length % size by (first | lia | omega))] at hQ
                                      rw [hz]
                                      exact PySem.W.ite_neg (by decide) (PySem.W.ite_neg (by decide) hQ)
                                    · have hz : (s.length + j) % size ≠ 0 := by
                                        have e : s.length + j = (s.length % size + j) + size * (s.length / size) := by
                                          have := Nat.div_add_mod s.length size
                                          (first | lia | omega)
                                        rw [e, Nat.add_mul_mod_self_left, Nat.mod_eq_of_lt (by (first | lia | omega))]; (first | lia | omega)
                                      refine PySem.W.ite_pos (by simpa using hz) (PySem.W.ite_pos rfl (seq_to _ (fun R hR => get_W n3 ⟨a, _, rfl, LH.set_self _ _ _, get_W n1 ⟨_, LH.set_self _ _ _, by rw [sizeLine_eq]; simp; (first | lia | omega), hR⟩⟩) ?_))
                                      refine kn (k - 1) _ (by (first | lia | omega)) ⟨j + 1, by (first | lia | omega), by rw [if_pos rfl]; (first | lia | omega), ?_⟩
                                      rw [LH.set_set]
                                      congr 3
                                      rw [List.replicate_succ', ← List.append_assoc, List.map_append (l₂ := [9])]; rfl
                                  · have hf : ([c] == [9]) = false := by simpa using h9
                                    rw [if_neg h9] at hj
                                    have hj' : j = 1 := by (first | lia | omega)
                                    subst hj'
                                    unfold scrStep at hQ
                                    rw [if_neg h9] at hQ
                                    rw [hf]
                                    exact PySem.W.ite_neg (by decide) (PySem.W.ite_neg (by decide) hQ)
                            case tc3 =>
                              refine' xs_cons ?sx ?sy
                              case sx =>
                                with_reducible refine' st_extend ?eoB ?eeB ?emB ?esB ?eiB ?ewB
                                case emB => rfl
                                case esB => rfl
                                case eiB => rfl
                                case ewB => rfl
                                case eoB => repeat' (first | with_reducible exact ev_int _ _ _ | with_reducible exact ev_str _ _ _ | with_reducible exact ev_none _ _ | with_reducible exact ev_bool _ _ _ | (with_reducible refine' ev_name _ _ ?_ ?_) | (with_reducible refine' ev_binop ?_ ?_) | (with_reducible refine' ev_neg ?_) | (with_reducible refine' ev_cmp ?_ ?_ ?_) | (with_reducible refine' ev_ifexp ?_ ?_ ?_) | (with_reducible refine' ev_list ?_) | (with_reducible refine' ev_tuple ?_) | with_reducible exact es_nil | (with_reducible refine' es_cons ?_ ?_ ?_) | (with_reducible refine' ev_cut ?_ ?_ ?_) | (with_reducible refine' ev_idx ?_ ?_ ?_) | with_reducible exact pt_none | (with_reducible refine' pt_some ?_) | (with_reducible refine' bt_cmp ?_ ?_ ?_) | (with_reducible refine' bt_not ?_) | (with_reducible refine' bt_bool ?_) | with_reducible exact at_and_nil | with_reducible exact at_or_nil | (with_reducible refine' at_and_cons ?_ ?_) | (with_reducible refine' at_or_cons ?_ ?_) | with_reducible exact xs_nil | (with_reducible refine' xs_cons ?_ ?_) | (with_reducible refine' st_assign ?_ ?_ ?_) | (with_reducible refine' st_aug ?_ ?_ ?_) | (with_reducible refine' st_if ?_ ?_ ?_) | (with_reducible refine' st_append ?_ ?_ ?_ ?_ ?_ ?_) | (with_reducible refine' st_augidx ?_ ?_ ?_ ?_) | (with_reducible refine' st_ret ?_) | with_reducible exact st_ret0 | with_reducible exact st_cont | with_reducible exact st_pass | (with_reducible refine' st_while ?_ ?_) | (with_reducible refine' st_for ?_ (as_name ?_) ?_ ?_ ?_) | (with_reducible refine' ev_len (by assumption) ?_ ?_ ?_ ?_ ?_ ?_ ?_ ?_) | (with_reducible refine' ev_chr (by assumption) ?_ ?_ ?_ ?_ ?_ ?_ ?_ ?_) | (with_reducible refine' ev_range (by assumption) ?_ ?_ ?_ ?_ ?_ ?_ ?_ ?_) | (with_reducible refine' ev_abs (by assumption) ?_ ?_ ?_ ?_ ?_ ?_ ?_ ?_) | (with_reducible refine' ev_count _ ?_ ?_ ?_ ?_ ?_) | (with_reducible refine' ev_split _ ?_ ?_ ?_ ?_ ?_) | (with_reducible refine' ev_index _ ?_ ?_ ?_ ?_) | (with_reducible refine' ev_attr (C := 111) (by assumption) ?_ ?_ ?_ ?_ ?_ ?_) | (with_reducible refine' st_swap2 (x := "row") (y := "whole") ?_ ?_ ?_ ?_ ?_) | (with_reducible refine' ev_fn (x := Str.ofString "_law_read") (f := 127) (by assumption) (by assumption) ?_ ?_ ?_ ?_ ?_ ?_ ?_ ?_ ?_) | (with_reducible refine' st_extend ?_ ?_ ?_ ?_ ?_ ?_) | (with_reducible refine' ev_html (by assumption) ?_ ?_ ?_ ?_ ?_ ?_ ?_) | (with_reducible refine' st_split _ 380 (by assumption) ?_ ?_ ?_ ?_ ?_ ?_ ?_ ?_) | with_reducible exact ts_nil | (with_reducible refine' ts_one ?_) | ((with_reducible show nsIn _ _ _ = _); k_is) | ((with_reducible show plainGet _ _ _ = _); k_is) | ((with_reducible show hasDictIn _ _ = _); k_is) | ((with_reducible show findIn _ _ _ = _); k_is) | ((with_reducible show noGet _ _ = _); k_is) | ((with_reducible show Stores _ _); first | exact Or.inl rfl | exact Or.inr ⟨rfl, rfl⟩) | ((with_reducible show (_ == _) = false); decide) | ((with_reducible show behindInMarks _ _ = _); with_unfolding_all rfl) | ((with_reducible show _ ≤ _); decide) | ((with_reducible show _ = _); rfl) | ((with_reducible show ∀ _, _ = _); intro _; rfl) | ((with_reducible show ∀ _ _, _ = _); intro _ _; rfl) | ((with_reducible show ∀ _ _ _, _ = _); intro _ _ _; rfl) | (with_reducible refine' bt_val ?_ ?_))
                                case eeB =>
                                  with_reducible refine' ev_lmul ?laB ?lbB
                                  case laB => repeat' (first | with_reducible exact ev_int _ _ _ | with_reducible exact ev_str _ _ _ | with_reducible exact ev_none _ _ | with_reducible exact ev_bool _ _ _ | (with_reducible refine' ev_name _ _ ?_ ?_) | (with_reducible refine' ev_binop ?_ ?_) | (with_reducible refine' ev_neg ?_) | (with_reducible refine' ev_cmp ?_ ?_ ?_) | (with_reducible refine' ev_ifexp ?_ ?_ ?_) | (with_reducible refine' ev_list ?_) | (with_reducible refine' ev_tuple ?_) | with_reducible exact es_nil | (with_reducible refine' es_cons ?_ ?_ ?_) | (with_reducible refine' ev_cut ?_ ?_ ?_) | (with_reducible refine' ev_idx ?_ ?_ ?_) | with_reducible exact pt_none | (with_reducible refine' pt_some ?_) | (with_reducible refine' bt_cmp ?_ ?_ ?_) | (with_reducible refine' bt_not ?_) | (with_reducible refine' bt_bool ?_) | with_reducible exact at_and_nil | with_reducible exact at_or_nil | (with_reducible refine' at_and_cons ?_ ?_) | (with_reducible refine' at_or_cons ?_ ?_) | with_reducible exact xs_nil | (with_reducible refine' xs_cons ?_ ?_) | (with_reducible refine' st_assign ?_ ?_ ?_) | (with_reducible refine' st_aug ?_ ?_ ?_) | (with_reducible refine' st_if ?_ ?_ ?_) | (with_reducible refine' st_append ?_ ?_ ?_ ?_ ?_ ?_) | (with_reducible refine' st_augidx ?_ ?_ ?_ ?_) | (with_reducible refine' st_ret ?_) | with_reducible exact st_ret0 | with_reducible exact st_cont | with_reducible exact st_pass | (with_reducible refine' st_while ?_ ?_) | (with_reducible refine' st_for ?_ (as_name ?_) ?_ ?_ ?_) | (with_reducible refine' ev_len (by assumption) ?_ ?_ ?_ ?_ ?_ ?_ ?_ ?_) | (with_reducible refine' ev_chr (by assumption) ?_ ?_ ?_ ?_ ?_ ?_ ?_ ?_) | (with_reducible refine' ev_range (by assumption) ?_ ?_ ?_ ?_ ?_ ?_ ?_ ?_) | (with_reducible refine' ev_abs (by assumption) ?_ ?_ ?_ ?_ ?_ ?_ ?_ ?_) | (with_reducible refine' ev_count _ ?_ ?_ ?_ ?_ ?_) | (with_reducible refine' ev_split _ ?_ ?_ ?_ ?_ ?_) | (with_reducible refine' ev_index _ ?_ ?_ ?_ ?_) | (with_reducible refine' ev_attr (C := 111) (by assumption) ?_ ?_ ?_ ?_ ?_ ?_) | (with_reducible refine' st_swap2 (x := "row") (y := "whole") ?_ ?_ ?_ ?_ ?_) | (with_reducible refine' ev_fn (x := Str.ofString "_law_read") (f := 127) (by assumption) (by assumption) ?_ ?_ ?_ ?_ ?_ ?_ ?_ ?_ ?_) | (with_reducible refine' st_extend ?_ ?_ ?_ ?_ ?_ ?_) | (with_reducible refine' ev_html (by assumption) ?_ ?_ ?_ ?_ ?_ ?_ ?_) | (with_reducible refine' st_split _ 380 (by assumption) ?_ ?_ ?_ ?_ ?_ ?_ ?_ ?_) | with_reducible exact ts_nil | (with_reducible refine' ts_one ?_) | ((with_reducible show nsIn _ _ _ = _); k_is) | ((with_reducible show plainGet _ _ _ = _); k_is) | ((with_reducible show hasDictIn _ _ = _); k_is) | ((with_reducible show findIn _ _ _ = _); k_is) | ((with_reducible show noGet _ _ = _); k_is) | ((with_reducible show Stores _ _); first | exact Or.inl rfl | exact Or.inr ⟨rfl, rfl⟩) | ((with_reducible show (_ == _) = false); decide) | ((with_reducible show behindInMarks _ _ = _); with_unfolding_all rfl) | ((with_reducible show _ ≤ _); decide) | ((with_reducible show _ = _); rfl) | ((with_reducible show ∀ _, _ = _); intro _; rfl) | ((with_reducible show ∀ _ _, _ = _); intro _ _; rfl) | ((with_reducible show ∀ _ _ _, _ = _); intro _ _ _; rfl) | (with_reducible refine' bt_val ?_ ?_))
                                  case lbB => repeat' (first | with_reducible exact ev_int _ _ _ | with_reducible exact ev_str _ _ _ | with_reducible exact ev_none _ _ | with_reducible exact ev_bool _ _ _ | (with_reducible refine' ev_name _ _ ?_ ?_) | (with_reducible refine' ev_binop ?_ ?_) | (with_reducible refine' ev_neg ?_) | (with_reducible refine' ev_cmp ?_ ?_ ?_) | (with_reducible refine' ev_ifexp ?_ ?_ ?_) | (with_reducible refine' ev_list ?_) | (with_reducible refine' ev_tuple ?_) | with_reducible exact es_nil | (with_reducible refine' es_cons ?_ ?_ ?_) | (with_reducible refine' ev_cut ?_ ?_ ?_) | (with_reducible refine' ev_idx ?_ ?_ ?_) | with_reducible exact pt_none | (with_reducible refine' pt_some ?_) | (with_reducible refine' bt_cmp ?_ ?_ ?_) | (with_reducible refine' bt_not ?_) | (with_reducible refine' bt_bool ?_) | with_reducible exact at_and_nil | with_reducible exact at_or_nil | (with_reducible refine' at_and_cons ?_ ?_) | (with_reducible refine' at_or_cons ?_ ?_) | with_reducible exact xs_nil | (with_reducible refine' xs_cons ?_ ?_) | (with_reducible refine' st_assign ?_ ?_ ?_) | (with_reducible refine' st_aug ?_ ?_ ?_) | (with_reducible refine' st_if ?_ ?_ ?_) | (with_reducible refine' st_append ?_ ?_ ?_ ?_ ?_ ?_) | (with_reducible refine' st_augidx ?_ ?_ ?_ ?_) | (with_reducible refine' st_ret ?_) | with_reducible exact st_ret0 | with_reducible exact st_cont | with_reducible exact st_pass | (with_reducible refine' st_while ?_ ?_) | (with_reducible refine' st_for ?_ (as_name ?_) ?_ ?_ ?_) | (with_reducible refine' ev_len (by assumption) ?_ ?_ ?_ ?_ ?_ ?_ ?_ ?_) | (with_reducible refine' ev_chr (by assumption) ?_ ?_ ?_ ?_ ?_ ?_ ?_ ?_) | (with_reducible refine' ev_range (by assumption) ?_ ?_ ?_ ?_ ?_ ?_ ?_ ?_) | (with_reducible refine' ev_abs (by assumption) ?_ ?_ ?_ ?_ ?_ ?_ ?_ ?_) | (with_reducible refine' ev_count _ ?_ ?_ ?_ ?_ ?_) | (with_reducible refine' ev_split _ ?_ ?_ ?_ ?_ ?_) | (with_reducible refine' ev_index _ ?_ ?_ ?_ ?_) | (with_reducible refine' ev_attr (C := 111) (by assumption) ?_ ?_ ?_ ?_ ?_ ?_) | (with_reducible refine' st_swap2 (x := "row") (y := "whole") ?_ ?_ ?_ ?_ ?_) | (with_reducible refine' ev_fn (x := Str.ofString "_law_read") (f := 127) (by assumption) (by assumption) ?_ ?_ ?_ ?_ ?_ ?_ ?_ ?_ ?_) | (with_reducible refine' st_extend ?_ ?_ ?_ ?_ ?_ ?_) | (with_reducible refine' ev_html (by assumption) ?_ ?_ ?_ ?_ ?_ ?_ ?_) | (with_reducible refine' st_split _ 380 (by assumption) ?_ ?_ ?_ ?_ ?_ ?_ ?_ ?_) | with_reducible exact ts_nil | (with_reducible refine' ts_one ?_) | ((with_reducible show nsIn _ _ _ = _); k_is) | ((with_reducible show plainGet _ _ _ = _); k_is) | ((with_reducible show hasDictIn _ _ = _); k_is) | ((with_reducible show findIn _ _ _ = _); k_is) | ((with_reducible show noGet _ _ = _); k_is) | ((with_reducible show Stores _ _); first | exact Or.inl rfl | exact Or.inr ⟨rfl, rfl⟩) | ((with_reducible show (_ == _) = false); decide) | ((with_reducible show behindInMarks _ _ = _); with_unfolding_all rfl) | ((with_reducible show _ ≤ _); decide) | ((with_reducible show _ = _); rfl) | ((with_reducible show ∀ _, _ = _); intro _; rfl) | ((with_reducible show ∀ _ _, _ = _); intro _ _; rfl) | ((with_reducible show ∀ _ _ _, _ = _); intro _ _ _; rfl) | (with_reducible refine' bt_val ?_ ?_))
                              case sy => exact xs_nil
                  case fm =>
                    intro σ0 Q hh
                    refine hide fun Gh kh => ?_
                    obtain ⟨ns, size, a, b, hs1, hs6, hns, hab, n1, n2, n3, n4, n5, hA, hB, hQ⟩ := hh
                    refine kh ?_
                    clear kh Gh
                    refine get_W n1 ⟨_, trivial, rfl, ?_⟩
                    refine forW_inv (fun rest σ => ∃ done todo : List Int, done ++ todo = ns ∧ rest = todo.map .int ∧ SmL ["x", "sign", "line"] σ0 σ ∧ σ.loc "line" = some (.str (mkS (done.map sgn))) ∧ σ.H a = some ⟨true, (scr size (done.map sgn)).map chP⟩ ∧ σ.H b = some ⟨true, (mks done).map maP⟩) ?step ?fin _ _ ?init
                    case init => exact ⟨[], ns, rfl, rfl, fun _ _ => rfl, n3, hA, hB⟩
                    case fin =>
                      rintro σ ⟨done, todo, e1, e2, e3, e4, e5, e6⟩
                      have ht : todo = [] := by cases todo with | nil => rfl | cons _ _ => cases e2
                      subst ht
                      rw [List.append_nil] at e1
                      subst e1
                      exact hQ σ e3 e4 e5 e6
                    case step =>
                      intro p r σ K hI kn kc
                      refine hide fun Gh kh => ?_
                      obtain ⟨done, x, rfl, e3, e4, e5, e6, hlen, hfin⟩ : ∃ (done : List Int) (x : Int), p = .int x ∧ SmL ["x", "sign", "line"] σ0 σ ∧ σ.loc "line" = some (.str (mkS (done.map sgn))) ∧ σ.H a = some ⟨true, (scr size (done.map sgn)).map chP⟩ ∧ σ.H b = some ⟨true, (mks done).map maP⟩ ∧ done.length + 1 ≤ 62 ∧
                          ∀ σ', SmL ["x", "sign", "line"] σ σ' → σ'.loc "line" = some (.str (mkS (done.map sgn ++ [sgn x]))) → σ'.H a = some ⟨true, (scrStep size (scr size (done.map sgn)) (sgn x)).map chP⟩ → σ'.H b = some ⟨true, (mks (done ++ [x])).map maP⟩ → K .next σ' := by
                        clear kh
                        obtain ⟨done, todo, e1, e2, e3, e4, e5, e6⟩ := hI
                        cases todo with
                        | nil => cases e2
                        | cons x todo =>
                          cases e2
                          have hlen := congrArg List.length e1
                          simp only [List.length_append, List.length_cons] at hlen
                          exact ⟨done, x, rfl, e3, e4, e5, e6, by (first | lia | omega), fun σ' q1 q2 q3 q4 => kn _ ⟨done ++ [x], todo, by rw [← e1]; simp, rfl, e3.trans q1, by rw [List.map_append]; exact q2, by rw [List.map_append (l₂ := [x]), List.map_singleton, scr_snoc]; exact q3, q4⟩⟩
                      clear hI kn kc
                      have m2 : σ.loc "size" = _ := e3.get (by decide) n2
                      have m4 : σ.loc "screen" = _ := e3.get (by decide) n4
                      have m5 : σ.loc "marks" = _ := e3.get (by decide) n5
                      have hsc : (scr size (done.map sgn)).length ≤ 372 := by
                        have := (scr_len size hs1 (done.map sgn) []).2
                        simp only [List.length_nil, List.length_map, Nat.zero_add] at this
                        have h2 : size * done.length ≤ 6 * 62 := Nat.mul_le_mul hs6 (by (first | lia | omega))
                        unfold scr; (first | lia | omega)
                      have hml := mks_len done
                      obtain ⟨c, hc, hc2⟩ := chr_c x
                      obtain ⟨hcn, hc1, hc9⟩ := cntM_eq x
                      have hba : b ≠ a := Ne.symm hab
                      refine kh ?_
                      clear kh Gh
                      refine seq_to ⟨(σ.loc.set "x" (.int x)).set "sign" (.str (mkS [sgn x])), σ.H⟩ (fun R hR => ?_) ?_
                      · rw [ofSt, ofSsp]
                        refine get_W rfl (bin_divI (by decide) (by decide) (bin_modI (by decide) (bin_addI (chr_W c hc hc2 ?_))))
                        refine get_W rfl (bin_divI (by decide) (by decide) (bin_modI (by decide) (bin_addI (chr_W c hc hc2 ?_))))
                        exact ⟨by rw [sizeLine_eq]; simp, listW_lst (get_W rfl (bin_modI (by decide) (sgn_idx x c hc hR)))⟩
                      refine seq_to ⟨((σ.loc.set "x" (.int x)).set "sign" (.str (mkS [sgn x]))).set "line" (.str (mkS (done.map sgn ++ [sgn x]))), σ.H⟩ (fun R hR => get_W e4 (get_W rfl (bin_addS (by rw [mkS_len, mkS_len, sizeLine_eq]; simp; (first | lia | omega)) (by rw [mkS_append]; exact hR)))) ?_
                      refine seq_to _ (fun R hR => get_W m4 ⟨a, _, rfl, e5, get_W rfl ⟨_, e5, by rw [List.length_map, sizeLine_eq]; (first | lia | omega), hR⟩⟩) ?_
                      refine seq_to _ (fun R hR => ⟨scr size (done.map sgn), sgn x, size, a, hs1, hs6, by (first | lia | omega), rfl, m2, m4, (LH.set_self _ _ _).trans (by rw [List.map_append]; rfl), hR⟩) ?_
                      have hb1 : ∀ l l' : LO, ((σ.H.set a l).set a l') b = some ⟨true, (mks done).map maP⟩ := fun l l' => by rw [LH.set_ne _ _ hba, LH.set_ne _ _ hba]; exact e6
                      refine seq_to ⟨((σ.loc.set "x" (.int x)).set "sign" (.str (mkS [sgn x]))).set "line" (.str (mkS (done.map sgn ++ [sgn x]))), ((σ.H.set a ⟨true, (scr size (done.map sgn)).map chP ++ [.str (mkS [sgn x])]⟩).set a ⟨true, (scrStep size (scr size (done.map sgn)) (sgn x)).map chP⟩).set b ⟨true, (mks (done ++ [x])).map maP⟩⟩ (fun R hR => ?_) ?_
                      · rw [ofSe, ofSp, ofSm, ofSc]
                        refine get_W m5 ⟨b, _, rfl, hb1 _ _, ?_⟩
                        refine ⟨by rw [sizeLine_eq]; simp, listW_lst (get_W rfl (bin_divI (by decide) (by decide) (bin_modI (by decide) (mark4_idx (x.fdiv 7) ?_))))⟩
                        refine ⟨by rw [sizeLine_eq]; simp, listW_lst (get_W rfl (bin_divI (by decide) (by decide) (bin_modI (by decide) (bin_addI ?_))))⟩
                        rw [hcn]
                        refine ⟨_, _, rfl, rfl, by (first | lia | omega), by simp; (first | lia | omega), listW_lst ⟨_, _, hb1 _ _, rfl, ?_, ?_⟩⟩
                        · rw [List.length_map, Int.toNat_natCast, rep_one]; simp; (first | lia | omega)
                        rw [mks_snoc, List.map_append] at hR
                        rw [Int.toNat_natCast, rep_one]
                        exact hR
                      · exact hfin _ (SmL.heap ((((SmL.refl _ σ).set (x := "x") (by decide)).set (x := "sign") (by decide)).set (x := "line") (by decide))) rfl ((LH.set_ne _ _ hab).trans (LH.set_self _ _ _)) (LH.set_self _ _ _)
                case tp5 =>
                  with_reducible refine' xs_cons ?sp6 ?tp6
                  case sp6 =>
                    with_reducible refine' st_extend ?eoA ?eeA ?emA ?esA ?eiA ?ewA
                    case emA => rfl
                    case esA => rfl
                    case eiA => rfl
                    case ewA => rfl
                    case eoA => repeat' (first | with_reducible exact ev_int _ _ _ | with_reducible exact ev_str _ _ _ | with_reducible exact ev_none _ _ | with_reducible exact ev_bool _ _ _ | (with_reducible refine' ev_name _ _ ?_ ?_) | (with_reducible refine' ev_binop ?_ ?_) | (with_reducible refine' ev_neg ?_) | (with_reducible refine' ev_cmp ?_ ?_ ?_) | (with_reducible refine' ev_ifexp ?_ ?_ ?_) | (with_reducible refine' ev_list ?_) | (with_reducible refine' ev_tuple ?_) | with_reducible exact es_nil | (with_reducible refine' es_cons ?_ ?_ ?_) | (with_reducible refine' ev_cut ?_ ?_ ?_) | (with_reducible refine' ev_idx ?_ ?_ ?_) | with_reducible exact pt_none | (with_reducible refine' pt_some ?_) | (with_reducible refine' bt_cmp ?_ ?_ ?_) | (with_reducible refine' bt_not ?_) | (with_reducible refine' bt_bool ?_) | with_reducible exact at_and_nil | with_reducible exact at_or_nil | (with_reducible refine' at_and_cons ?_ ?_) | (with_reducible refine' at_or_cons ?_ ?_) | with_reducible exact xs_nil | (with_reducible refine' xs_cons ?_ ?_) | (with_reducible refine' st_assign ?_ ?_ ?_) | (with_reducible refine' st_aug ?_ ?_ ?_) | (with_reducible refine' st_if ?_ ?_ ?_) | (with_reducible refine' st_append ?_ ?_ ?_ ?_ ?_ ?_) | (with_reducible refine' st_augidx ?_ ?_ ?_ ?_) | (with_reducible refine' st_ret ?_) | with_reducible exact st_ret0 | with_reducible exact st_cont | with_reducible exact st_pass | (with_reducible refine' st_while ?_ ?_) | (with_reducible refine' st_for ?_ (as_name ?_) ?_ ?_ ?_) | (with_reducible refine' ev_len (by assumption) ?_ ?_ ?_ ?_ ?_ ?_ ?_ ?_) | (with_reducible refine' ev_chr (by assumption) ?_ ?_ ?_ ?_ ?_ ?_ ?_ ?_) | (with_reducible refine' ev_range (by assumption) ?_ ?_ ?_ ?_ ?_ ?_ ?_ ?_) | (with_reducible refine' ev_abs (by assumption) ?_ ?_ ?_ ?_ ?_ ?_ ?_ ?_) | (with_reducible refine' ev_count _ ?_ ?_ ?_ ?_ ?_) | (with_reducible refine' ev_split _ ?_ ?_ ?_ ?_ ?_) | (with_reducible refine' ev_index _ ?_ ?_ ?_ ?_) | (with_reducible refine' ev_attr (C := 111) (by assumption) ?_ ?_ ?_ ?_ ?_ ?_) | (with_reducible refine' st_swap2 (x := "row") (y := "whole") ?_ ?_ ?_ ?_ ?_) | (with_reducible refine' ev_fn (x := Str.ofString "_law_read") (f := 127) (by assumption) (by assumption) ?_ ?_ ?_ ?_ ?_ ?_ ?_ ?_ ?_) | (with_reducible refine' st_extend ?_ ?_ ?_ ?_ ?_ ?_) | (with_reducible refine' ev_html (by assumption) ?_ ?_ ?_ ?_ ?_ ?_ ?_) | (with_reducible refine' st_split _ 380 (by assumption) ?_ ?_ ?_ ?_ ?_ ?_ ?_ ?_) | with_reducible exact ts_nil | (with_reducible refine' ts_one ?_) | ((with_reducible show nsIn _ _ _ = _); k_is) | ((with_reducible show plainGet _ _ _ = _); k_is) | ((with_reducible show hasDictIn _ _ = _); k_is) | ((with_reducible show findIn _ _ _ = _); k_is) | ((with_reducible show noGet _ _ = _); k_is) | ((with_reducible show Stores _ _); first | exact Or.inl rfl | exact Or.inr ⟨rfl, rfl⟩) | ((with_reducible show (_ == _) = false); decide) | ((with_reducible show behindInMarks _ _ = _); with_unfolding_all rfl) | ((with_reducible show _ ≤ _); decide) | ((with_reducible show _ = _); rfl) | ((with_reducible show ∀ _, _ = _); intro _; rfl) | ((with_reducible show ∀ _ _, _ = _); intro _ _; rfl) | ((with_reducible show ∀ _ _ _, _ = _); intro _ _ _; rfl) | (with_reducible refine' bt_val ?_ ?_))
                    case eeA =>
                      with_reducible refine' ev_lmul ?laA ?lbA
                      case laA => repeat' (first | with_reducible exact ev_int _ _ _ | with_reducible exact ev_str _ _ _ | with_reducible exact ev_none _ _ | with_reducible exact ev_bool _ _ _ | (with_reducible refine' ev_name _ _ ?_ ?_) | (with_reducible refine' ev_binop ?_ ?_) | (with_reducible refine' ev_neg ?_) | (with_reducible refine' ev_cmp ?_ ?_ ?_) | (with_reducible refine' ev_ifexp ?_ ?_ ?_) | (with_reducible refine' ev_list ?_) | (with_reducible refine' ev_tuple ?_) | with_reducible exact es_nil | (with_reducible refine' es_cons ?_ ?_ ?_) | (with_reducible refine' ev_cut ?_ ?_ ?_) | (with_reducible refine' ev_idx ?_ ?_ ?_) | with_reducible exact pt_none | (with_reducible refine' pt_some ?_) | (with_reducible refine' bt_cmp ?_ ?_ ?_) | (with_reducible refine' bt_not ?_) | (with_reducible refine' bt_bool ?_) | with_reducible exact at_and_nil | with_reducible exact at_or_nil | (with_reducible refine' at_and_cons ?_ ?_) | (with_reducible refine' at_or_cons ?_ ?_) | with_reducible exact xs_nil | (with_reducible refine' xs_cons ?_ ?_) | (with_reducible refine' st_assign ?_ ?_ ?_) | (with_reducible refine' st_aug ?_ ?_ ?_) | (with_reducible refine' st_if ?_ ?_ ?_) | (with_reducible refine' st_append ?_ ?_ ?_ ?_ ?_ ?_) | (with_reducible refine' st_augidx ?_ ?_ ?_ ?_) | (with_reducible refine' st_ret ?_) | with_reducible exact st_ret0 | with_reducible exact st_cont | with_reducible exact st_pass | (with_reducible refine' st_while ?_ ?_) | (with_reducible refine' st_for ?_ (as_name ?_) ?_ ?_ ?_) | (with_reducible refine' ev_len (by assumption) ?_ ?_ ?_ ?_ ?_ ?_ ?_ ?_) | (with_reducible refine' ev_chr (by assumption) ?_ ?_ ?_ ?_ ?_ ?_ ?_ ?_) | (with_reducible refine' ev_range (by assumption) ?_ ?_ ?_ ?_ ?_ ?_ ?_ ?_) | (with_reducible refine' ev_abs (by assumption) ?_ ?_ ?_ ?_ ?_ ?_ ?_ ?_) | (with_reducible refine' ev_count _ ?_ ?_ ?_ ?_ ?_) | (with_reducible refine' ev_split _ ?_ ?_ ?_ ?_ ?_) | (with_reducible refine' ev_index _ ?_ ?_ ?_ ?_) | (with_reducible refine' ev_attr (C := 111) (by assumption) ?_ ?_ ?_ ?_ ?_ ?_) | (with_reducible refine' st_swap2 (x := "row") (y := "whole") ?_ ?_ ?_ ?_ ?_) | (with_reducible refine' ev_fn (x := Str.ofString "_law_read") (f := 127) (by assumption) (by assumption) ?_ ?_ ?_ ?_ ?_ ?_ ?_ ?_ ?_) | (with_reducible refine' st_extend ?_ ?_ ?_ ?_ ?_ ?_) | (with_reducible refine' ev_html (by assumption) ?_ ?_ ?_ ?_ ?_ ?_ ?_) | (with_reducible refine' st_split _ 380 (by assumption) ?_ ?_ ?_ ?_ ?_ ?_ ?_ ?_) | with_reducible exact ts_nil | (with_reducible refine' ts_one ?_) | ((with_reducible show nsIn _ _ _ = _); k_is) | ((with_reducible show plainGet _ _ _ = _); k_is) | ((with_reducible show hasDictIn _ _ = _); k_is) | ((with_reducible show findIn _ _ _ = _); k_is) | ((with_reducible show noGet _ _ = _); k_is) | ((with_reducible show Stores _ _); first | exact Or.inl rfl | exact Or.inr ⟨rfl, rfl⟩) | ((with_reducible show (_ == _) = false); decide) | ((with_reducible show behindInMarks _ _ = _); with_unfolding_all rfl) | ((with_reducible show _ ≤ _); decide) | ((with_reducible show _ = _); rfl) | ((with_reducible show ∀ _, _ = _); intro _; rfl) | ((with_reducible show ∀ _ _, _ = _); intro _ _; rfl) | ((with_reducible show ∀ _ _ _, _ = _); intro _ _ _; rfl) | (with_reducible refine' bt_val ?_ ?_))
                      case lbA => repeat' (first | with_reducible exact ev_int _ _ _ | with_reducible exact ev_str _ _ _ | with_reducible exact ev_none _ _ | with_reducible exact ev_bool _ _ _ | (with_reducible refine' ev_name _ _ ?_ ?_) | (with_reducible refine' ev_binop ?_ ?_) | (with_reducible refine' ev_neg ?_) | (with_reducible refine' ev_cmp ?_ ?_ ?_) | (with_reducible refine' ev_ifexp ?_ ?_ ?_) | (with_reducible refine' ev_list ?_) | (with_reducible refine' ev_tuple ?_) | with_reducible exact es_nil | (with_reducible refine' es_cons ?_ ?_ ?_) | (with_reducible refine' ev_cut ?_ ?_ ?_) | (with_reducible refine' ev_idx ?_ ?_ ?_) | with_reducible exact pt_none | (with_reducible refine' pt_some ?_) | (with_reducible refine' bt_cmp ?_ ?_ ?_) | (with_reducible refine' bt_not ?_) | (with_reducible refine' bt_bool ?_) | with_reducible exact at_and_nil | with_reducible exact at_or_nil | (with_reducible refine' at_and_cons ?_ ?_) | (with_reducible refine' at_or_cons ?_ ?_) | with_reducible exact xs_nil | (with_reducible refine' xs_cons ?_ ?_) | (with_reducible refine' st_assign ?_ ?_ ?_) | (with_reducible refine' st_aug ?_ ?_ ?_) | (with_reducible refine' st_if ?_ ?_ ?_) | (with_reducible refine' st_append ?_ ?_ ?_ ?_ ?_ ?_) | (with_reducible refine' st_augidx ?_ ?_ ?_ ?_) | (with_reducible refine' st_ret ?_) | with_reducible exact st_ret0 | with_reducible exact st_cont | with_reducible exact st_pass | (with_reducible refine' st_while ?_ ?_) | (with_reducible refine' st_for ?_ (as_name ?_) ?_ ?_ ?_) | (with_reducible refine' ev_len (by assumption) ?_ ?_ ?_ ?_ ?_ ?_ ?_ ?_) | (with_reducible refine' ev_chr (by assumption) ?_ ?_ ?_ ?_ ?_ ?_ ?_ ?_) | (with_reducible refine' ev_range (by assumption) ?_ ?_ ?_ ?_ ?_ ?_ ?_ ?_) | (with_reducible refine' ev_abs (by assumption) ?_ ?_ ?_ ?_ ?_ ?_ ?_ ?_) | (with_reducible refine' ev_count _ ?_ ?_ ?_ ?_ ?_) | (with_reducible refine' ev_split _ ?_ ?_ ?_ ?_ ?_) | (with_reducible refine' ev_index _ ?_ ?_ ?_ ?_) | (with_reducible refine' ev_attr (C := 111) (by assumption) ?_ ?_ ?_ ?_ ?_ ?_) | (with_reducible refine' st_swap2 (x := "row") (y := "whole") ?_ ?_ ?_ ?_ ?_) | (with_reducible refine' ev_fn (x := Str.ofString "_law_read") (f := 127) (by assumption) (by assumption) ?_ ?_ ?_ ?_ ?_ ?_ ?_ ?_ ?_) | (with_reducible refine' st_extend ?_ ?_ ?_ ?_ ?_ ?_) | (with_reducible refine' ev_html (by assumption) ?_ ?_ ?_ ?_ ?_ ?_ ?_) | (with_reducible refine' st_split _ 380 (by assumption) ?_ ?_ ?_ ?_ ?_ ?_ ?_ ?_) | with_reducible exact ts_nil | (with_reducible refine' ts_one ?_) | ((with_reducible show nsIn _ _ _ = _); k_is) | ((with_reducible show plainGet _ _ _ = _); k_is) | ((with_reducible show hasDictIn _ _ = _); k_is) | ((with_reducible show findIn _ _ _ = _); k_is) | ((with_reducible show noGet _ _ = _); k_is) | ((with_reducible show Stores _ _); first | exact Or.inl rfl | exact Or.inr ⟨rfl, rfl⟩) | ((with_reducible show (_ == _) = false); decide) | ((with_reducible show behindInMarks _ _ = _); with_unfolding_all rfl) | ((with_reducible show _ ≤ _); decide) | ((with_reducible show _ = _); rfl) | ((with_reducible show ∀ _, _ = _); intro _; rfl) | ((with_reducible show ∀ _ _, _ = _); intro _ _; rfl) | ((with_reducible show ∀ _ _ _, _ = _); intro _ _ _; rfl) | (with_reducible refine' bt_val ?_ ?_))
                  case tp6 =>
                    with_reducible refine' xs_cons ?sp7 ?tp7
                    case sp7 =>
                      repeat' (first | with_reducible exact ev_int _ _ _ | with_reducible exact ev_str _ _ _ | with_reducible exact ev_none _ _ | with_reducible exact ev_bool _ _ _ | (with_reducible refine' ev_name _ _ ?_ ?_) | (with_reducible refine' ev_binop ?_ ?_) | (with_reducible refine' ev_neg ?_) | (with_reducible refine' ev_cmp ?_ ?_ ?_) | (with_reducible refine' ev_ifexp ?_ ?_ ?_) | (with_reducible refine' ev_list ?_) | (with_reducible refine' ev_tuple ?_) | with_reducible exact es_nil | (with_reducible refine' es_cons ?_ ?_ ?_) | (with_reducible refine' ev_cut ?_ ?_ ?_) | (with_reducible refine' ev_idx ?_ ?_ ?_) | with_reducible exact pt_none | (with_reducible refine' pt_some ?_) | (with_reducible refine' bt_cmp ?_ ?_ ?_) | (with_reducible refine' bt_not ?_) | (with_reducible refine' bt_bool ?_) | with_reducible exact at_and_nil | with_reducible exact at_or_nil | (with_reducible refine' at_and_cons ?_ ?_) | (with_reducible refine' at_or_cons ?_ ?_) | with_reducible exact xs_nil | (with_reducible refine' xs_cons ?_ ?_) | (with_reducible refine' st_assign ?_ ?_ ?_) | (with_reducible refine' st_aug ?_ ?_ ?_) | (with_reducible refine' st_if ?_ ?_ ?_) | (with_reducible refine' st_append ?_ ?_ ?_ ?_ ?_ ?_) | (with_reducible refine' st_augidx ?_ ?_ ?_ ?_) | (with_reducible refine' st_ret ?_) | with_reducible exact st_ret0 | with_reducible exact st_cont | with_reducible exact st_pass | (with_reducible refine' st_while ?_ ?_) | (with_reducible refine' st_for ?_ (as_name ?_) ?_ ?_ ?_) | (with_reducible refine' ev_len (by assumption) ?_ ?_ ?_ ?_ ?_ ?_ ?_ ?_) | (with_reducible refine' ev_chr (by assumption) ?_ ?_ ?_ ?_ ?_ ?_ ?_ ?_) | (with_reducible refine' ev_range (by assumption) ?_ ?_ ?_ ?_ ?_ ?_ ?_ ?_) | (with_reducible refine' ev_abs (by assumption) ?_ ?_ ?_ ?_ ?_ ?_ ?_ ?_) | (with_reducible refine' ev_count _ ?_ ?_ ?_ ?_ ?_) | (with_reducible refine' ev_split _ ?_ ?_ ?_ ?_ ?_) | (with_reducible refine' ev_index _ ?_ ?_ ?_ ?_) | (with_reducible refine' ev_attr (C := 111) (by assumption) ?_ ?_ ?_ ?_ ?_ ?_) | (with_reducible refine' st_swap2 (x := "row") (y := "whole") ?_ ?_ ?_ ?_ ?_) | (with_reducible refine' ev_fn (x := Str.ofString "_law_read") (f := 127) (by assumption) (by assumption) ?_ ?_ ?_ ?_ ?_ ?_ ?_ ?_ ?_) | (with_reducible refine' st_extend ?_ ?_ ?_ ?_ ?_ ?_) | (with_reducible refine' ev_html (by assumption) ?_ ?_ ?_ ?_ ?_ ?_ ?_) | (with_reducible refine' st_split _ 380 (by assumption) ?_ ?_ ?_ ?_ ?_ ?_ ?_ ?_) | with_reducible exact ts_nil | (with_reducible refine' ts_one ?_) | ((with_reducible show nsIn _ _ _ = _); k_is) | ((with_reducible show plainGet _ _ _ = _); k_is) | ((with_reducible show hasDictIn _ _ = _); k_is) | ((with_reducible show findIn _ _ _ = _); k_is) | ((with_reducible show noGet _ _ = _); k_is) | ((with_reducible show Stores _ _); first | exact Or.inl rfl | exact Or.inr ⟨rfl, rfl⟩) | ((with_reducible show (_ == _) = false); decide) | ((with_reducible show behindInMarks _ _ = _); with_unfolding_all rfl) | ((with_reducible show _ ≤ _); decide) | ((with_reducible show _ = _); rfl) | ((with_reducible show ∀ _, _ = _); intro _; rfl) | ((with_reducible show ∀ _ _, _ = _); intro _ _; rfl) | ((with_reducible show ∀ _ _ _, _ = _); intro _ _ _; rfl) | (with_reducible refine' bt_val ?_ ?_))
                    case tp7 =>
                      exact xs_nil
    case pre =>
      rename List Int => ws
      have hw : ws.length ≤ 63 := by (first | lia | omega)
      clear hFm hFr hmk hrd G
      refine seq_ex (fun σ => ∃ way : Int, σ.loc "way" = some (.int way) ∧ σ.loc "script" = some (.lst (ws.map .int))) (fun R hR => ⟨ws, rfl, hw, fun way => hR _ ⟨way, rfl, rfl⟩⟩) ?_
      rintro σ ⟨way, p1, p2⟩
      refine seq_to ⟨σ.loc.set "numbers" (.lst ((cut ws (some 1) (some 63)).map .int)), σ.H⟩ (fun R hR => get_W p2 ⟨_, rfl, _, rfl, cut_L (by rw [List.length_map, sizeLine_eq]; (first | lia | omega)) (listW_lst (by rw [cut_map]; exact hR))⟩) ?_
      refine seq_ex (fun σ₁ => ∃ ns : List Int, 2 ≤ ns.length ∧ ns.length ≤ 62 ∧ σ₁.loc "way" = some (.int way) ∧ σ₁.loc "numbers" = some (.lst (ns.map .int))) (fun R hR => ⟨cut ws (some 1) (some 63), rfl, cut_1_63 ws, fun ns hn2 hn62 σ₁ hs1 hH1 hns => hR _ ⟨ns, hn2, hn62, hs1.get (by decide) p1, hns⟩⟩) ?_
      clear p1 p2 σ
      rintro σ ⟨ns, hn2, hn62, p1, p2⟩
      refine seq_ex (fun σ₁ => ∃ (size column : Nat) (number : PV) (tr : Bool), 1 ≤ size ∧ size ≤ 6 ∧ 1 ≤ column ∧ column ≤ 12 ∧ OkNum number tr ∧ σ₁ = ⟨((σ.loc.set "number" number).set "column" (.int (column : Int))).set "size" (.int (size : Int)), σ.H⟩) (fun R hR => ⟨way, p1, fun size column number tr z1 z6 c1 c12 hnum => hR _ ⟨size, column, number, tr, z1, z6, c1, c12, hnum, rfl⟩⟩) ?_
      rintro _ ⟨size, column, number, tr, z1, z6, c1, c12, hnum, rfl⟩
      refine seq_ex (fun σ₁ => ∃ a b : Addr, a ≠ b ∧ σ₁.loc "way" = some (.int way) ∧ σ₁.loc "numbers" = some (.lst (ns.map .int)) ∧ σ₁.loc "number" = some number ∧ σ₁.loc "column" = some (.int (column : Int)) ∧ σ₁.loc "size" = some (.int (size : Int)) ∧ σ₁.loc "line" = some (.str (mkS [])) ∧ σ₁.loc "screen" = some (.ref a) ∧ σ₁.loc "marks" = some (.ref b) ∧ σ₁.H a = some ⟨true, []⟩ ∧ σ₁.H b = some ⟨true, []⟩) (fun R hR => ?_) ?_
      · rw [ofSe]
        refine ⟨by decide, listW_ref fun a ha => ⟨by decide, listW_ref fun b hb => ⟨by rw [sizeLine_eq]; simp, _, _, _, rfl, ?_⟩⟩⟩
        have hab : a ≠ b := fun e => by subst e; cases (LH.set_self _ _ _).symm.trans hb
        exact hR _ ⟨a, b, hab, p1, p2, rfl, rfl, rfl, rfl, rfl, rfl, (LH.set_ne _ _ hab).trans (LH.set_self _ _ _), LH.set_self _ _ _⟩
      clear p1 p2 σ
      rintro σ ⟨a, b, hab, p1, p2, p3, p4, p5, p6, p7, p8, p9, p10⟩
      refine seq_ex (fun σ₂ => σ₂.loc "way" = some (.int way) ∧ σ₂.loc "number" = some number ∧ σ₂.loc "column" = some (.int (column : Int)) ∧ σ₂.loc "size" = some (.int (size : Int)) ∧ σ₂.loc "line" = some (.str (mkS (ns.map sgn))) ∧ σ₂.loc "screen" = some (.ref a) ∧ σ₂.loc "marks" = some (.ref b) ∧ σ₂.H a = some ⟨true, (scr size (ns.map sgn)).map chP⟩ ∧ σ₂.H b = some ⟨true, (mks ns).map maP⟩) (fun R hR => ⟨ns, size, a, b, z1, z6, hn62, hab, p2, p5, p6, p7, p8, p9, p10, fun σ₂ hs2 hl2 hA2 hB2 => hR _ ⟨hs2.get (by decide) p1, hs2.get (by decide) p3, hs2.get (by decide) p4, hs2.get (by decide) p5, hl2, hs2.get (by decide) p7, hs2.get (by decide) p8, hA2, hB2⟩⟩) ?_
      clear p1 p2 p3 p4 p5 p6 p7 p8 p9 p10 σ
      rintro σ ⟨q6, q5, q4, q3, hl2, q2, q1, hA2, hB2⟩
      have hml := mks_len ns
      have e6 : ((6 : Int) * (ns.length : Int)).toNat = 6 * ns.length := by (first | lia | omega)
      refine seq_to ⟨σ.loc, σ.H.set b ⟨true, (mks ns ++ List.replicate (6 * ns.length) []).map maP⟩⟩ (fun R hR => ?_) ?_
      · rw [ofSe]
        refine get_W q1 ⟨b, _, rfl, hB2, ⟨by decide, listW_lst (get_W hl2 (len_S (by rw [mkS_len, List.length_map]; (first | lia | omega)) (bin_mulI (mulI_ok (by decide)) ?_)))⟩⟩
        rw [mkS_len, List.length_map]
        refine ⟨_, _, rfl, rfl, by (first | lia | omega), by simp; (first | lia | omega), listW_lst ⟨_, _, hB2, rfl, ?_, ?_⟩⟩
        · rw [List.length_map, rep_one, List.length_map, List.length_replicate]; (first | lia | omega)
        rw [List.map_append] at hR
        rw [rep_one, e6]
        exact hR
      refine seq_to _ (fun R hR => get_W q3 (get_W q4 ⟨size, column, rfl, hR⟩)) ?_
      refine .mk way size column number tr (ns.map sgn) (mks ns ++ List.replicate (6 * ns.length) []) a b ⟨z1, z6, c1, c12, hnum, by rw [List.length_map]; exact hn2, by rw [List.length_map]; exact hn62, fun c hc => ?_, fun m hm => ?_, by simp, by simp; (first | lia | omega), hab, (LH.set_ne _ _ hab).trans hA2, LH.set_self _ _ _, q6, q4, q5, hl2, q2, q1, rfl⟩
      · obtain ⟨x, _, rfl⟩ := List.mem_map.mp hc; exact sgn_ok x
      · rcases List.mem_append.mp hm with hm | hm
        · exact mks_ok ns m hm
        · rw [(List.mem_replicate.mp hm).2]; exact ⟨.inl rfl, fun _ h => by cases h⟩
    case post =>
      intro fl p loc' Z' H' s' k vf hp
      cases hp with
      | mk way size column number tr line M a b P =>
      cases vf
      have rm : ∀ env, Rm 400 (callerA.deeper env) := fun env => ⟨rfl, (by decide : callerA.depth + 1 + 400 < recursionLimit), (by decide : callerA.units + 3 + 80 + 8 * 400 < cLine)⟩
      have hn3 := fm_ok (way.fdiv 5) (k := 3) (by decide)
      have hnn : (way.fdiv 5).fmod 3 = (((way.fdiv 5).fmod 3).toNat : Int) := (Int.toNat_of_nonneg hn3.1).symm
      generalize ((way.fdiv 5).fmod 3).toNat = nn at hnn
      have hl62 := P.l62
      refine' tab_stmt (n := 388) (x := "shown") (l := mkS (line ++ List.replicate nn 10)) (size := size) (fs := [("_wrapcolumn", .int (column : Int)), ("_linejunk", .none), ("_charjunk", .raw (.ref 29))]) (pl := ?pl) G T' codeHd (rm _) k.sat ?t1 ?t2 ?t3 ?t4 ?t5 ?t6 ?t7 ?t8 ?t9 ?t10 ?t11 ?t12 ?t13 ?t14 ?t15 ?t16 ?t17 ?t18 ?t19 ?t20 ?t21 ?t22 ?t23 fun Z6 s6 S6 hg6 sh6 => ?t24
      case t1 => exact k.frm 55 _ hP55 (N' _ (.head _)).2.1 (fun m hm => by cases hm) (fun xs h => by cases h)
      case t2 => exact k.noZ hP55 hZ55
      case t3 => exact (N' _ (.head _)).2.1
      case t4 => exact fun m hm => by cases hm
      case t5 => exact ev_name _ _ (by decide) (by decide)
      case t6 => repeat' (first | with_reducible exact ev_int _ _ _ | with_reducible exact ev_str _ _ _ | with_reducible exact ev_none _ _ | with_reducible exact ev_bool _ _ _ | (with_reducible refine' ev_name _ _ ?_ ?_) | (with_reducible refine' ev_binop ?_ ?_) | (with_reducible refine' ev_neg ?_) | (with_reducible refine' ev_cmp ?_ ?_ ?_) | (with_reducible refine' ev_ifexp ?_ ?_ ?_) | (with_reducible refine' ev_list ?_) | (with_reducible refine' ev_tuple ?_) | with_reducible exact es_nil | (with_reducible refine' es_cons ?_ ?_ ?_) | (with_reducible refine' ev_cut ?_ ?_ ?_) | (with_reducible refine' ev_idx ?_ ?_ ?_) | with_reducible exact pt_none | (with_reducible refine' pt_some ?_) | (with_reducible refine' bt_cmp ?_ ?_ ?_) | (with_reducible refine' bt_not ?_) | (with_reducible refine' bt_bool ?_) | with_reducible exact at_and_nil | with_reducible exact at_or_nil | (with_reducible refine' at_and_cons ?_ ?_) | (with_reducible refine' at_or_cons ?_ ?_) | with_reducible exact xs_nil | (with_reducible refine' xs_cons ?_ ?_) | (with_reducible refine' st_assign ?_ ?_ ?_) | (with_reducible refine' st_aug ?_ ?_ ?_) | (with_reducible refine' st_if ?_ ?_ ?_) | (with_reducible refine' st_append ?_ ?_ ?_ ?_ ?_ ?_) | (with_reducible refine' st_augidx ?_ ?_ ?_ ?_) | (with_reducible refine' st_ret ?_) | with_reducible exact st_ret0 | with_reducible exact st_cont | with_reducible exact st_pass | (with_reducible refine' st_while ?_ ?_) | (with_reducible refine' st_for ?_ (as_name ?_) ?_ ?_ ?_) | (with_reducible refine' ev_len (by assumption) ?_ ?_ ?_ ?_ ?_ ?_ ?_ ?_) | (with_reducible refine' ev_chr (by assumption) ?_ ?_ ?_ ?_ ?_ ?_ ?_ ?_) | (with_reducible refine' ev_range (by assumption) ?_ ?_ ?_ ?_ ?_ ?_ ?_ ?_) | (with_reducible refine' ev_abs (by assumption) ?_ ?_ ?_ ?_ ?_ ?_ ?_ ?_) | (with_reducible refine' ev_count _ ?_ ?_ ?_ ?_ ?_) | (with_reducible refine' ev_split _ ?_ ?_ ?_ ?_ ?_) | (with_reducible refine' ev_index _ ?_ ?_ ?_ ?_) | (with_reducible refine' ev_attr (C := 111) (by assumption) ?_ ?_ ?_ ?_ ?_ ?_) | (with_reducible refine' st_swap2 (x := "row") (y := "whole") ?_ ?_ ?_ ?_ ?_) | (with_reducible refine' ev_fn (x := Str.ofString "_law_read") (f := 127) (by assumption) (by assumption) ?_ ?_ ?_ ?_ ?_ ?_ ?_ ?_ ?_) | (with_reducible refine' st_extend ?_ ?_ ?_ ?_ ?_ ?_) | (with_reducible refine' ev_html (by assumption) ?_ ?_ ?_ ?_ ?_ ?_ ?_) | (with_reducible refine' st_split _ 380 (by assumption) ?_ ?_ ?_ ?_ ?_ ?_ ?_ ?_) | with_reducible exact ts_nil | (with_reducible refine' ts_one ?_) | ((with_reducible show nsIn _ _ _ = _); k_is) | ((with_reducible show plainGet _ _ _ = _); k_is) | ((with_reducible show hasDictIn _ _ = _); k_is) | ((with_reducible show findIn _ _ _ = _); k_is) | ((with_reducible show noGet _ _ = _); k_is) | ((with_reducible show Stores _ _); first | exact Or.inl rfl | exact Or.inr ⟨rfl, rfl⟩) | ((with_reducible show (_ == _) = false); decide) | ((with_reducible show behindInMarks _ _ = _); with_unfolding_all rfl) | ((with_reducible show _ ≤ _); decide) | ((with_reducible show _ = _); rfl) | ((with_reducible show ∀ _, _ = _); intro _; rfl) | ((with_reducible show ∀ _ _, _ = _); intro _ _; rfl) | ((with_reducible show ∀ _ _ _, _ = _); intro _ _ _; rfl) | (with_reducible refine' bt_val ?_ ?_))
      case t7 => exact ev_int _ _ _
      case t8 => exact ev_int _ _ _
      case t9 => exact get_W P.nsh ⟨rfl, rfl⟩
      case t10 => rfl
      case t11 =>
        refine get_W P.nline (get_W P.nway (bin_divI (by decide) (by decide) (bin_modI (by decide) ?_)))
        rw [hnn, ofSnl]
        refine ⟨mul_ok [10] nn (by (first | lia | omega)) (by simp; (first | lia | omega)), ?_⟩
        rw [mul_mk, flat_single]
        refine bin_addS (by rw [mkS_len, mkS_len, sizeLine_eq]; simp; (first | lia | omega)) ?_
        rw [mkS_append]
        exact ⟨by rw [sizeLine_eq]; simp, listW_lst ⟨by rw [sizeLine_eq]; simp, listW_lst ⟨rfl, rfl⟩⟩⟩
      case t12 => exact fun K h => h
      case t13 => exact fun K h => h
      case t14 => (first | lia | omega)
      case t15 => have := P.s6; (first | lia | omega)
      case t16 => rw [mkS_len]; simp; (first | lia | omega)
      case t17 => rfl
      case t18 => rfl
      case t19 => rfl
      case t20 => rfl
      case t21 => exact fun _ _ => rfl
      case t22 => exact fun _ _ => rfl
      case t23 => exact .inl rfl
      case t24 =>
        have e1 : expandS (size : Int) (mkS (line ++ List.replicate nn 10)) = mkS (scr size line) := by
          have e0 : (mkS (line ++ List.replicate nn 10)).cps.toList = line ++ List.replicate nn 10 := by simp [mkS]
          rw [expandS_eq, e0, filled_scr size P.s1 line nn]
          · intro c hc
            rcases P.ok c hc with h | h <;> (first | lia | omega)
          · rw [e0]
            intro h0
            rcases List.mem_append.mp h0 with h | h
            · rcases P.ok 0 h with h | h <;> (first | lia | omega)
            · exact absurd (List.mem_replicate.mp h).2 (by decide)
        rw [e1] at S6
        refine' XsOk.use (n := 400) (H := H') (Q := fun fl _ => fl = .ret (.bool true)) ?hX2 (rm _) S6 ?pre2 ?post2
        case hX2 =>
          refine' XsOk.mono (F' := SufS) ?sx ?sm
          case sx =>
            with_reducible refine' xs_cons ?sq0 ?tq0
            case sq0 =>
              refine' st_assign ?ae ?ak ?am
              case ak => exact Or.inl rfl
              case am => rfl
              case ae =>
                (with_reducible refine' ev_fn (x := Str.ofString "_law_marked") (f := 122) (by assumption) (by assumption) ?f1 ?f2 ?f3 ?f4 ?f5 ?f6 ?f7 ?f8 ?f9)
                case f1 => k_is
                case f2 => rfl
                case f3 => rfl
                case f4 => decide
                case f5 => decide
                case f7 => rfl
                case f8 => rfl
                case f9 => rfl
                case f6 =>
                  with_reducible refine' es_cons ?g1 es_nil ?g2
                  case g2 => rfl
                  case g1 =>
                    refine' ev_listzip (by assumption) ?z1A ?z2A ?z3A ?z4A ?z5A ?z6A ?z7A ?z8A ?z9A ?zaA ?zbA ?zcA ?zdA ?zeA ?zfA
                    case z1A => k_is
                    case z2A => k_is
                    case z7A => repeat' (first | with_reducible exact ev_int _ _ _ | with_reducible exact ev_str _ _ _ | with_reducible exact ev_none _ _ | with_reducible exact ev_bool _ _ _ | (with_reducible refine' ev_name _ _ ?_ ?_) | (with_reducible refine' ev_binop ?_ ?_) | (with_reducible refine' ev_neg ?_) | (with_reducible refine' ev_cmp ?_ ?_ ?_) | (with_reducible refine' ev_ifexp ?_ ?_ ?_) | (with_reducible refine' ev_list ?_) | (with_reducible refine' ev_tuple ?_) | with_reducible exact es_nil | (with_reducible refine' es_cons ?_ ?_ ?_) | (with_reducible refine' ev_cut ?_ ?_ ?_) | (with_reducible refine' ev_idx ?_ ?_ ?_) | with_reducible exact pt_none | (with_reducible refine' pt_some ?_) | (with_reducible refine' bt_cmp ?_ ?_ ?_) | (with_reducible refine' bt_not ?_) | (with_reducible refine' bt_bool ?_) | with_reducible exact at_and_nil | with_reducible exact at_or_nil | (with_reducible refine' at_and_cons ?_ ?_) | (with_reducible refine' at_or_cons ?_ ?_) | with_reducible exact xs_nil | (with_reducible refine' xs_cons ?_ ?_) | (with_reducible refine' st_assign ?_ ?_ ?_) | (with_reducible refine' st_aug ?_ ?_ ?_) | (with_reducible refine' st_if ?_ ?_ ?_) | (with_reducible refine' st_append ?_ ?_ ?_ ?_ ?_ ?_) | (with_reducible refine' st_augidx ?_ ?_ ?_ ?_) | (with_reducible refine' st_ret ?_) | with_reducible exact st_ret0 | with_reducible exact st_cont | with_reducible exact st_pass | (with_reducible refine' st_while ?_ ?_) | (with_reducible refine' st_for ?_ (as_name ?_) ?_ ?_ ?_) | (with_reducible refine' ev_len (by assumption) ?_ ?_ ?_ ?_ ?_ ?_ ?_ ?_) | (with_reducible refine' ev_chr (by assumption) ?_ ?_ ?_ ?_ ?_ ?_ ?_ ?_) | (with_reducible refine' ev_range (by assumption) ?_ ?_ ?_ ?_ ?_ ?_ ?_ ?_) | (with_reducible refine' ev_abs (by assumption) ?_ ?_ ?_ ?_ ?_ ?_ ?_ ?_) | (with_reducible refine' ev_count _ ?_ ?_ ?_ ?_ ?_) | (with_reducible refine' ev_split _ ?_ ?_ ?_ ?_ ?_) | (with_reducible refine' ev_index _ ?_ ?_ ?_ ?_) | (with_reducible refine' ev_attr (C := 111) (by assumption) ?_ ?_ ?_ ?_ ?_ ?_) | (with_reducible refine' st_swap2 (x := "row") (y := "whole") ?_ ?_ ?_ ?_ ?_) | (with_reducible refine' ev_fn (x := Str.ofString "_law_read") (f := 127) (by assumption) (by assumption) ?_ ?_ ?_ ?_ ?_ ?_ ?_ ?_ ?_) | (with_reducible refine' st_extend ?_ ?_ ?_ ?_ ?_ ?_) | (with_reducible refine' ev_html (by assumption) ?_ ?_ ?_ ?_ ?_ ?_ ?_) | (with_reducible refine' st_split _ 380 (by assumption) ?_ ?_ ?_ ?_ ?_ ?_ ?_ ?_) | with_reducible exact ts_nil | (with_reducible refine' ts_one ?_) | ((with_reducible show nsIn _ _ _ = _); k_is) | ((with_reducible show plainGet _ _ _ = _); k_is) | ((with_reducible show hasDictIn _ _ = _); k_is) | ((with_reducible show findIn _ _ _ = _); k_is) | ((with_reducible show noGet _ _ = _); k_is) | ((with_reducible show Stores _ _); first | exact Or.inl rfl | exact Or.inr ⟨rfl, rfl⟩) | ((with_reducible show (_ == _) = false); decide) | ((with_reducible show behindInMarks _ _ = _); with_unfolding_all rfl) | ((with_reducible show _ ≤ _); decide) | ((with_reducible show _ = _); rfl) | ((with_reducible show ∀ _, _ = _); intro _; rfl) | ((with_reducible show ∀ _ _, _ = _); intro _ _; rfl) | ((with_reducible show ∀ _ _ _, _ = _); intro _ _ _; rfl) | (with_reducible refine' bt_val ?_ ?_))
                    case z8A => repeat' (first | with_reducible exact ev_int _ _ _ | with_reducible exact ev_str _ _ _ | with_reducible exact ev_none _ _ | with_reducible exact ev_bool _ _ _ | (with_reducible refine' ev_name _ _ ?_ ?_) | (with_reducible refine' ev_binop ?_ ?_) | (with_reducible refine' ev_neg ?_) | (with_reducible refine' ev_cmp ?_ ?_ ?_) | (with_reducible refine' ev_ifexp ?_ ?_ ?_) | (with_reducible refine' ev_list ?_) | (with_reducible refine' ev_tuple ?_) | with_reducible exact es_nil | (with_reducible refine' es_cons ?_ ?_ ?_) | (with_reducible refine' ev_cut ?_ ?_ ?_) | (with_reducible refine' ev_idx ?_ ?_ ?_) | with_reducible exact pt_none | (with_reducible refine' pt_some ?_) | (with_reducible refine' bt_cmp ?_ ?_ ?_) | (with_reducible refine' bt_not ?_) | (with_reducible refine' bt_bool ?_) | with_reducible exact at_and_nil | with_reducible exact at_or_nil | (with_reducible refine' at_and_cons ?_ ?_) | (with_reducible refine' at_or_cons ?_ ?_) | with_reducible exact xs_nil | (with_reducible refine' xs_cons ?_ ?_) | (with_reducible refine' st_assign ?_ ?_ ?_) | (with_reducible refine' st_aug ?_ ?_ ?_) | (with_reducible refine' st_if ?_ ?_ ?_) | (with_reducible refine' st_append ?_ ?_ ?_ ?_ ?_ ?_) | (with_reducible refine' st_augidx ?_ ?_ ?_ ?_) | (with_reducible refine' st_ret ?_) | with_reducible exact st_ret0 | with_reducible exact st_cont | with_reducible exact st_pass | (with_reducible refine' st_while ?_ ?_) | (with_reducible refine' st_for ?_ (as_name ?_) ?_ ?_ ?_) | (with_reducible refine' ev_len (by assumption) ?_ ?_ ?_ ?_ ?_ ?_ ?_ ?_) | (with_reducible refine' ev_chr (by assumption) ?_ ?_ ?_ ?_ ?_ ?_ ?_ ?_) | (with_reducible refine' ev_range (by assumption) ?_ ?_ ?_ ?_ ?_ ?_ ?_ ?_) | (with_reducible refine' ev_abs (by assumption) ?_ ?_ ?_ ?_ ?_ ?_ ?_ ?_) | (with_reducible refine' ev_count _ ?_ ?_ ?_ ?_ ?_) | (with_reducible refine' ev_split _ ?_ ?_ ?_ ?_ ?_) | (with_reducible refine' ev_index _ ?_ ?_ ?_ ?_) | (with_reducible refine' ev_attr (C := 111) (by assumption) ?_ ?_ ?_ ?_ ?_ ?_) | (with_reducible refine' st_swap2 (x := "row") (y := "whole") ?_ ?_ ?_ ?_ ?_) | (with_reducible refine' ev_fn (x := Str.ofString "_law_read") (f := 127) (by assumption) (by assumption) ?_ ?_ ?_ ?_ ?_ ?_ ?_ ?_ ?_) | (with_reducible refine' st_extend ?_ ?_ ?_ ?_ ?_ ?_) | (with_reducible refine' ev_html (by assumption) ?_ ?_ ?_ ?_ ?_ ?_ ?_) | (with_reducible refine' st_split _ 380 (by assumption) ?_ ?_ ?_ ?_ ?_ ?_ ?_ ?_) | with_reducible exact ts_nil | (with_reducible refine' ts_one ?_) | ((with_reducible show nsIn _ _ _ = _); k_is) | ((with_reducible show plainGet _ _ _ = _); k_is) | ((with_reducible show hasDictIn _ _ = _); k_is) | ((with_reducible show findIn _ _ _ = _); k_is) | ((with_reducible show noGet _ _ = _); k_is) | ((with_reducible show Stores _ _); first | exact Or.inl rfl | exact Or.inr ⟨rfl, rfl⟩) | ((with_reducible show (_ == _) = false); decide) | ((with_reducible show behindInMarks _ _ = _); with_unfolding_all rfl) | ((with_reducible show _ ≤ _); decide) | ((with_reducible show _ = _); rfl) | ((with_reducible show ∀ _, _ = _); intro _; rfl) | ((with_reducible show ∀ _ _, _ = _); intro _ _; rfl) | ((with_reducible show ∀ _ _ _, _ = _); intro _ _ _; rfl) | (with_reducible refine' bt_val ?_ ?_))
                    all_goals rfl
            case tq0 =>
              with_reducible refine' xs_cons ?sq1 ?tq1
              case sq1 =>
                repeat' (first | with_reducible exact ev_int _ _ _ | with_reducible exact ev_str _ _ _ | with_reducible exact ev_none _ _ | with_reducible exact ev_bool _ _ _ | (with_reducible refine' ev_name _ _ ?_ ?_) | (with_reducible refine' ev_binop ?_ ?_) | (with_reducible refine' ev_neg ?_) | (with_reducible refine' ev_cmp ?_ ?_ ?_) | (with_reducible refine' ev_ifexp ?_ ?_ ?_) | (with_reducible refine' ev_list ?_) | (with_reducible refine' ev_tuple ?_) | with_reducible exact es_nil | (with_reducible refine' es_cons ?_ ?_ ?_) | (with_reducible refine' ev_cut ?_ ?_ ?_) | (with_reducible refine' ev_idx ?_ ?_ ?_) | with_reducible exact pt_none | (with_reducible refine' pt_some ?_) | (with_reducible refine' bt_cmp ?_ ?_ ?_) | (with_reducible refine' bt_not ?_) | (with_reducible refine' bt_bool ?_) | with_reducible exact at_and_nil | with_reducible exact at_or_nil | (with_reducible refine' at_and_cons ?_ ?_) | (with_reducible refine' at_or_cons ?_ ?_) | with_reducible exact xs_nil | (with_reducible refine' xs_cons ?_ ?_) | (with_reducible refine' st_assign ?_ ?_ ?_) | (with_reducible refine' st_aug ?_ ?_ ?_) | (with_reducible refine' st_if ?_ ?_ ?_) | (with_reducible refine' st_append ?_ ?_ ?_ ?_ ?_ ?_) | (with_reducible refine' st_augidx ?_ ?_ ?_ ?_) | (with_reducible refine' st_ret ?_) | with_reducible exact st_ret0 | with_reducible exact st_cont | with_reducible exact st_pass | (with_reducible refine' st_while ?_ ?_) | (with_reducible refine' st_for ?_ (as_name ?_) ?_ ?_ ?_) | (with_reducible refine' ev_len (by assumption) ?_ ?_ ?_ ?_ ?_ ?_ ?_ ?_) | (with_reducible refine' ev_chr (by assumption) ?_ ?_ ?_ ?_ ?_ ?_ ?_ ?_) | (with_reducible refine' ev_range (by assumption) ?_ ?_ ?_ ?_ ?_ ?_ ?_ ?_) | (with_reducible refine' ev_abs (by assumption) ?_ ?_ ?_ ?_ ?_ ?_ ?_ ?_) | (with_reducible refine' ev_count _ ?_ ?_ ?_ ?_ ?_) | (with_reducible refine' ev_split _ ?_ ?_ ?_ ?_ ?_) | (with_reducible refine' ev_index _ ?_ ?_ ?_ ?_) | (with_reducible refine' ev_attr (C := 111) (by assumption) ?_ ?_ ?_ ?_ ?_ ?_) | (with_reducible refine' st_swap2 (x := "row") (y := "whole") ?_ ?_ ?_ ?_ ?_) | (with_reducible refine' ev_fn (x := Str.ofString "_law_read") (f := 127) (by assumption) (by assumption) ?_ ?_ ?_ ?_ ?_ ?_ ?_ ?_ ?_) | (with_reducible refine' st_extend ?_ ?_ ?_ ?_ ?_ ?_) | (with_reducible refine' ev_html (by assumption) ?_ ?_ ?_ ?_ ?_ ?_ ?_) | (with_reducible refine' st_split _ 380 (by assumption) ?_ ?_ ?_ ?_ ?_ ?_ ?_ ?_) | with_reducible exact ts_nil | (with_reducible refine' ts_one ?_) | ((with_reducible show nsIn _ _ _ = _); k_is) | ((with_reducible show plainGet _ _ _ = _); k_is) | ((with_reducible show hasDictIn _ _ = _); k_is) | ((with_reducible show findIn _ _ _ = _); k_is) | ((with_reducible show noGet _ _ = _); k_is) | ((with_reducible show Stores _ _); first | exact Or.inl rfl | exact Or.inr ⟨rfl, rfl⟩) | ((with_reducible show (_ == _) = false); decide) | ((with_reducible show behindInMarks _ _ = _); with_unfolding_all rfl) | ((with_reducible show _ ≤ _); decide) | ((with_reducible show _ = _); rfl) | ((with_reducible show ∀ _, _ = _); intro _; rfl) | ((with_reducible show ∀ _ _, _ = _); intro _ _; rfl) | ((with_reducible show ∀ _ _ _, _ = _); intro _ _ _; rfl) | (with_reducible refine' bt_val ?_ ?_))
              case tq1 =>
                with_reducible refine' xs_cons ?sq2 ?tq2
                case sq2 =>
                  repeat' (first | with_reducible exact ev_int _ _ _ | with_reducible exact ev_str _ _ _ | with_reducible exact ev_none _ _ | with_reducible exact ev_bool _ _ _ | (with_reducible refine' ev_name _ _ ?_ ?_) | (with_reducible refine' ev_binop ?_ ?_) | (with_reducible refine' ev_neg ?_) | (with_reducible refine' ev_cmp ?_ ?_ ?_) | (with_reducible refine' ev_ifexp ?_ ?_ ?_) | (with_reducible refine' ev_list ?_) | (with_reducible refine' ev_tuple ?_) | with_reducible exact es_nil | (with_reducible refine' es_cons ?_ ?_ ?_) | (with_reducible refine' ev_cut ?_ ?_ ?_) | (with_reducible refine' ev_idx ?_ ?_ ?_) | with_reducible exact pt_none | (with_reducible refine' pt_some ?_) | (with_reducible refine' bt_cmp ?_ ?_ ?_) | (with_reducible refine' bt_not ?_) | (with_reducible refine' bt_bool ?_) | with_reducible exact at_and_nil | with_reducible exact at_or_nil | (with_reducible refine' at_and_cons ?_ ?_) | (with_reducible refine' at_or_cons ?_ ?_) | with_reducible exact xs_nil | (with_reducible refine' xs_cons ?_ ?_) | (with_reducible refine' st_assign ?_ ?_ ?_) | (with_reducible refine' st_aug ?_ ?_ ?_) | (with_reducible refine' st_if ?_ ?_ ?_) | (with_reducible refine' st_append ?_ ?_ ?_ ?_ ?_ ?_) | (with_reducible refine' st_augidx ?_ ?_ ?_ ?_) | (with_reducible refine' st_ret ?_) | with_reducible exact st_ret0 | with_reducible exact st_cont | with_reducible exact st_pass | (with_reducible refine' st_while ?_ ?_) | (with_reducible refine' st_for ?_ (as_name ?_) ?_ ?_ ?_) | (with_reducible refine' ev_len (by assumption) ?_ ?_ ?_ ?_ ?_ ?_ ?_ ?_) | (with_reducible refine' ev_chr (by assumption) ?_ ?_ ?_ ?_ ?_ ?_ ?_ ?_) | (with_reducible refine' ev_range (by assumption) ?_ ?_ ?_ ?_ ?_ ?_ ?_ ?_) | (with_reducible refine' ev_abs (by assumption) ?_ ?_ ?_ ?_ ?_ ?_ ?_ ?_) | (with_reducible refine' ev_count _ ?_ ?_ ?_ ?_ ?_) | (with_reducible refine' ev_split _ ?_ ?_ ?_ ?_ ?_) | (with_reducible refine' ev_index _ ?_ ?_ ?_ ?_) | (with_reducible refine' ev_attr (C := 111) (by assumption) ?_ ?_ ?_ ?_ ?_ ?_) | (with_reducible refine' st_swap2 (x := "row") (y := "whole") ?_ ?_ ?_ ?_ ?_) | (with_reducible refine' ev_fn (x := Str.ofString "_law_read") (f := 127) (by assumption) (by assumption) ?_ ?_ ?_ ?_ ?_ ?_ ?_ ?_ ?_) | (with_reducible refine' st_extend ?_ ?_ ?_ ?_ ?_ ?_) | (with_reducible refine' ev_html (by assumption) ?_ ?_ ?_ ?_ ?_ ?_ ?_) | (with_reducible refine' st_split _ 380 (by assumption) ?_ ?_ ?_ ?_ ?_ ?_ ?_ ?_) | with_reducible exact ts_nil | (with_reducible refine' ts_one ?_) | ((with_reducible show nsIn _ _ _ = _); k_is) | ((with_reducible show plainGet _ _ _ = _); k_is) | ((with_reducible show hasDictIn _ _ = _); k_is) | ((with_reducible show findIn _ _ _ = _); k_is) | ((with_reducible show noGet _ _ = _); k_is) | ((with_reducible show Stores _ _); first | exact Or.inl rfl | exact Or.inr ⟨rfl, rfl⟩) | ((with_reducible show (_ == _) = false); decide) | ((with_reducible show behindInMarks _ _ = _); with_unfolding_all rfl) | ((with_reducible show _ ≤ _); decide) | ((with_reducible show _ = _); rfl) | ((with_reducible show ∀ _, _ = _); intro _; rfl) | ((with_reducible show ∀ _ _, _ = _); intro _ _; rfl) | ((with_reducible show ∀ _ _ _, _ = _); intro _ _ _; rfl) | (with_reducible refine' bt_val ?_ ?_))
                case tq2 =>
                  with_reducible refine' xs_cons ?sq3 ?tq3
                  case sq3 =>
                    refine' ExOk.mono (F' := CntS) ?moCntS ?mmCntS
                    case moCntS =>
                      repeat' (first | with_reducible exact ev_int _ _ _ | with_reducible exact ev_str _ _ _ | with_reducible exact ev_none _ _ | with_reducible exact ev_bool _ _ _ | (with_reducible refine' ev_name _ _ ?_ ?_) | (with_reducible refine' ev_binop ?_ ?_) | (with_reducible refine' ev_neg ?_) | (with_reducible refine' ev_cmp ?_ ?_ ?_) | (with_reducible refine' ev_ifexp ?_ ?_ ?_) | (with_reducible refine' ev_list ?_) | (with_reducible refine' ev_tuple ?_) | with_reducible exact es_nil | (with_reducible refine' es_cons ?_ ?_ ?_) | (with_reducible refine' ev_cut ?_ ?_ ?_) | (with_reducible refine' ev_idx ?_ ?_ ?_) | with_reducible exact pt_none | (with_reducible refine' pt_some ?_) | (with_reducible refine' bt_cmp ?_ ?_ ?_) | (with_reducible refine' bt_not ?_) | (with_reducible refine' bt_bool ?_) | with_reducible exact at_and_nil | with_reducible exact at_or_nil | (with_reducible refine' at_and_cons ?_ ?_) | (with_reducible refine' at_or_cons ?_ ?_) | with_reducible exact xs_nil | (with_reducible refine' xs_cons ?_ ?_) | (with_reducible refine' st_assign ?_ ?_ ?_) | (with_reducible refine' st_aug ?_ ?_ ?_) | (with_reducible refine' st_if ?_ ?_ ?_) | (with_reducible refine' st_append ?_ ?_ ?_ ?_ ?_ ?_) | (with_reducible refine' st_augidx ?_ ?_ ?_ ?_) | (with_reducible refine' st_ret ?_) | with_reducible exact st_ret0 | with_reducible exact st_cont | with_reducible exact st_pass | (with_reducible refine' st_while ?_ ?_) | (with_reducible refine' st_for ?_ (as_name ?_) ?_ ?_ ?_) | (with_reducible refine' ev_len (by assumption) ?_ ?_ ?_ ?_ ?_ ?_ ?_ ?_) | (with_reducible refine' ev_chr (by assumption) ?_ ?_ ?_ ?_ ?_ ?_ ?_ ?_) | (with_reducible refine' ev_range (by assumption) ?_ ?_ ?_ ?_ ?_ ?_ ?_ ?_) | (with_reducible refine' ev_abs (by assumption) ?_ ?_ ?_ ?_ ?_ ?_ ?_ ?_) | (with_reducible refine' ev_count _ ?_ ?_ ?_ ?_ ?_) | (with_reducible refine' ev_split _ ?_ ?_ ?_ ?_ ?_) | (with_reducible refine' ev_index _ ?_ ?_ ?_ ?_) | (with_reducible refine' ev_attr (C := 111) (by assumption) ?_ ?_ ?_ ?_ ?_ ?_) | (with_reducible refine' st_swap2 (x := "row") (y := "whole") ?_ ?_ ?_ ?_ ?_) | (with_reducible refine' ev_fn (x := Str.ofString "_law_read") (f := 127) (by assumption) (by assumption) ?_ ?_ ?_ ?_ ?_ ?_ ?_ ?_ ?_) | (with_reducible refine' st_extend ?_ ?_ ?_ ?_ ?_ ?_) | (with_reducible refine' ev_html (by assumption) ?_ ?_ ?_ ?_ ?_ ?_ ?_) | (with_reducible refine' st_split _ 380 (by assumption) ?_ ?_ ?_ ?_ ?_ ?_ ?_ ?_) | with_reducible exact ts_nil | (with_reducible refine' ts_one ?_) | ((with_reducible show nsIn _ _ _ = _); k_is) | ((with_reducible show plainGet _ _ _ = _); k_is) | ((with_reducible show hasDictIn _ _ = _); k_is) | ((with_reducible show findIn _ _ _ = _); k_is) | ((with_reducible show noGet _ _ = _); k_is) | ((with_reducible show Stores _ _); first | exact Or.inl rfl | exact Or.inr ⟨rfl, rfl⟩) | ((with_reducible show (_ == _) = false); decide) | ((with_reducible show behindInMarks _ _ = _); with_unfolding_all rfl) | ((with_reducible show _ ≤ _); decide) | ((with_reducible show _ = _); rfl) | ((with_reducible show ∀ _, _ = _); intro _; rfl) | ((with_reducible show ∀ _ _, _ = _); intro _ _; rfl) | ((with_reducible show ∀ _ _ _, _ = _); intro _ _ _; rfl) | (with_reducible refine' bt_val ?_ ?_))
                    case mmCntS =>
                      intro σ Q hh
                      refine hide fun Gh kh => ?_
                      obtain ⟨number, tr, column, a, xs, hn, hc1, hc12, hx1, hx2, n1, n2, n3, hH, hQ⟩ := hh
                      refine kh ?_
                      clear kh Gh
                      simp only [ofSe, n1, getW_some, reduceIte, Bool.false_eq_true]
                      refine hn.test (fun ht => ?_) (fun ht => ?_)
                      · subst ht; exact hQ
                      · subst ht
                        refine get_W n3 (len_R hH (by show xs.length < 2 ^ 62; (first | lia | omega)) (get_W n2 (bin_addI (bin_subI (get_W n2 (bin_divI (by (first | lia | omega)) (by (first | lia | omega)) ?_))))))
                        have e : ((xs.length : Int) + column - 1).fdiv column = (((xs.length - 1) / column + 1 : Nat) : Int) := by
                          rw [show ((xs.length : Int) + column - 1) = ((xs.length - 1 + column : Nat) : Int) by (first | lia | omega), fdiv_nat, Nat.add_div_right _ (by (first | lia | omega))]
                        rw [e]; exact hQ
                  case tq3 =>
                    with_reducible refine' xs_cons ?sq4 ?tq4
                    case sq4 =>
                      refine' ExOk.mono (F' := WdS) ?moWdS ?mmWdS
                      case moWdS =>
                        repeat' (first | with_reducible exact ev_int _ _ _ | with_reducible exact ev_str _ _ _ | with_reducible exact ev_none _ _ | with_reducible exact ev_bool _ _ _ | (with_reducible refine' ev_name _ _ ?_ ?_) | (with_reducible refine' ev_binop ?_ ?_) | (with_reducible refine' ev_neg ?_) | (with_reducible refine' ev_cmp ?_ ?_ ?_) | (with_reducible refine' ev_ifexp ?_ ?_ ?_) | (with_reducible refine' ev_list ?_) | (with_reducible refine' ev_tuple ?_) | with_reducible exact es_nil | (with_reducible refine' es_cons ?_ ?_ ?_) | (with_reducible refine' ev_cut ?_ ?_ ?_) | (with_reducible refine' ev_idx ?_ ?_ ?_) | with_reducible exact pt_none | (with_reducible refine' pt_some ?_) | (with_reducible refine' bt_cmp ?_ ?_ ?_) | (with_reducible refine' bt_not ?_) | (with_reducible refine' bt_bool ?_) | with_reducible exact at_and_nil | with_reducible exact at_or_nil | (with_reducible refine' at_and_cons ?_ ?_) | (with_reducible refine' at_or_cons ?_ ?_) | with_reducible exact xs_nil | (with_reducible refine' xs_cons ?_ ?_) | (with_reducible refine' st_assign ?_ ?_ ?_) | (with_reducible refine' st_aug ?_ ?_ ?_) | (with_reducible refine' st_if ?_ ?_ ?_) | (with_reducible refine' st_append ?_ ?_ ?_ ?_ ?_ ?_) | (with_reducible refine' st_augidx ?_ ?_ ?_ ?_) | (with_reducible refine' st_ret ?_) | with_reducible exact st_ret0 | with_reducible exact st_cont | with_reducible exact st_pass | (with_reducible refine' st_while ?_ ?_) | (with_reducible refine' st_for ?_ (as_name ?_) ?_ ?_ ?_) | (with_reducible refine' ev_len (by assumption) ?_ ?_ ?_ ?_ ?_ ?_ ?_ ?_) | (with_reducible refine' ev_chr (by assumption) ?_ ?_ ?_ ?_ ?_ ?_ ?_ ?_) | (with_reducible refine' ev_range (by assumption) ?_ ?_ ?_ ?_ ?_ ?_ ?_ ?_) | (with_reducible refine' ev_abs (by assumption) ?_ ?_ ?_ ?_ ?_ ?_ ?_ ?_) | (with_reducible refine' ev_count _ ?_ ?_ ?_ ?_ ?_) | (with_reducible refine' ev_split _ ?_ ?_ ?_ ?_ ?_) | (with_reducible refine' ev_index _ ?_ ?_ ?_ ?_) | (with_reducible refine' ev_attr (C := 111) (by assumption) ?_ ?_ ?_ ?_ ?_ ?_) | (with_reducible refine' st_swap2 (x := "row") (y := "whole") ?_ ?_ ?_ ?_ ?_) | (with_reducible refine' ev_fn (x := Str.ofString "_law_read") (f := 127) (by assumption) (by assumption) ?_ ?_ ?_ ?_ ?_ ?_ ?_ ?_ ?_) | (with_reducible refine' st_extend ?_ ?_ ?_ ?_ ?_ ?_) | (with_reducible refine' ev_html (by assumption) ?_ ?_ ?_ ?_ ?_ ?_ ?_) | (with_reducible refine' st_split _ 380 (by assumption) ?_ ?_ ?_ ?_ ?_ ?_ ?_ ?_) | with_reducible exact ts_nil | (with_reducible refine' ts_one ?_) | ((with_reducible show nsIn _ _ _ = _); k_is) | ((with_reducible show plainGet _ _ _ = _); k_is) | ((with_reducible show hasDictIn _ _ = _); k_is) | ((with_reducible show findIn _ _ _ = _); k_is) | ((with_reducible show noGet _ _ = _); k_is) | ((with_reducible show Stores _ _); first | exact Or.inl rfl | exact Or.inr ⟨rfl, rfl⟩) | ((with_reducible show (_ == _) = false); decide) | ((with_reducible show behindInMarks _ _ = _); with_unfolding_all rfl) | ((with_reducible show _ ≤ _); decide) | ((with_reducible show _ = _); rfl) | ((with_reducible show ∀ _, _ = _); intro _; rfl) | ((with_reducible show ∀ _ _, _ = _); intro _ _; rfl) | ((with_reducible show ∀ _ _ _, _ = _); intro _ _ _; rfl) | (with_reducible refine' bt_val ?_ ?_))
                      case mmWdS =>
                        intro σ Q hh
                        refine hide fun Gh kh => ?_
                        obtain ⟨M, column, a, xs, hx2, n1, n2, n3, hH, hQ⟩ := hh
                        refine kh ?_
                        clear kh Gh
                        refine get_W n1 (cmp_eqI ?_)
                        by_cases h : M + 1 = 1
                        · rw [if_pos h] at hQ
                          exact PySem.W.ite_pos (by simp; (first | lia | omega)) (get_W n3 (len_R hH (by show xs.length < 2 ^ 62; (first | lia | omega)) hQ))
                        · rw [if_neg h] at hQ
                          exact PySem.W.ite_neg (by simp; (first | lia | omega)) (get_W n2 hQ)
                    case tq4 =>
                      with_reducible refine' xs_cons ?sq5 ?tq5
                      case sq5 =>
                        refine' ExOk.mono (F' := ChkS) ?moChkS ?mmChkS
                        case moChkS =>
                          with_reducible refine' st_if ?ki ?kb ?ke
                          case kb => repeat' (first | with_reducible exact ev_int _ _ _ | with_reducible exact ev_str _ _ _ | with_reducible exact ev_none _ _ | with_reducible exact ev_bool _ _ _ | (with_reducible refine' ev_name _ _ ?_ ?_) | (with_reducible refine' ev_binop ?_ ?_) | (with_reducible refine' ev_neg ?_) | (with_reducible refine' ev_cmp ?_ ?_ ?_) | (with_reducible refine' ev_ifexp ?_ ?_ ?_) | (with_reducible refine' ev_list ?_) | (with_reducible refine' ev_tuple ?_) | with_reducible exact es_nil | (with_reducible refine' es_cons ?_ ?_ ?_) | (with_reducible refine' ev_cut ?_ ?_ ?_) | (with_reducible refine' ev_idx ?_ ?_ ?_) | with_reducible exact pt_none | (with_reducible refine' pt_some ?_) | (with_reducible refine' bt_cmp ?_ ?_ ?_) | (with_reducible refine' bt_not ?_) | (with_reducible refine' bt_bool ?_) | with_reducible exact at_and_nil | with_reducible exact at_or_nil | (with_reducible refine' at_and_cons ?_ ?_) | (with_reducible refine' at_or_cons ?_ ?_) | with_reducible exact xs_nil | (with_reducible refine' xs_cons ?_ ?_) | (with_reducible refine' st_assign ?_ ?_ ?_) | (with_reducible refine' st_aug ?_ ?_ ?_) | (with_reducible refine' st_if ?_ ?_ ?_) | (with_reducible refine' st_append ?_ ?_ ?_ ?_ ?_ ?_) | (with_reducible refine' st_augidx ?_ ?_ ?_ ?_) | (with_reducible refine' st_ret ?_) | with_reducible exact st_ret0 | with_reducible exact st_cont | with_reducible exact st_pass | (with_reducible refine' st_while ?_ ?_) | (with_reducible refine' st_for ?_ (as_name ?_) ?_ ?_ ?_) | (with_reducible refine' ev_len (by assumption) ?_ ?_ ?_ ?_ ?_ ?_ ?_ ?_) | (with_reducible refine' ev_chr (by assumption) ?_ ?_ ?_ ?_ ?_ ?_ ?_ ?_) | (with_reducible refine' ev_range (by assumption) ?_ ?_ ?_ ?_ ?_ ?_ ?_ ?_) | (with_reducible refine' ev_abs (by assumption) ?_ ?_ ?_ ?_ ?_ ?_ ?_ ?_) | (with_reducible refine' ev_count _ ?_ ?_ ?_ ?_ ?_) | (with_reducible refine' ev_split _ ?_ ?_ ?_ ?_ ?_) | (with_reducible refine' ev_index _ ?_ ?_ ?_ ?_) | (with_reducible refine' ev_attr (C := 111) (by assumption) ?_ ?_ ?_ ?_ ?_ ?_) | (with_reducible refine' st_swap2 (x := "row") (y := "whole") ?_ ?_ ?_ ?_ ?_) | (with_reducible refine' ev_fn (x := Str.ofString "_law_read") (f := 127) (by assumption) (by assumption) ?_ ?_ ?_ ?_ ?_ ?_ ?_ ?_ ?_) | (with_reducible refine' st_extend ?_ ?_ ?_ ?_ ?_ ?_) | (with_reducible refine' ev_html (by assumption) ?_ ?_ ?_ ?_ ?_ ?_ ?_) | (with_reducible refine' st_split _ 380 (by assumption) ?_ ?_ ?_ ?_ ?_ ?_ ?_ ?_) | with_reducible exact ts_nil | (with_reducible refine' ts_one ?_) | ((with_reducible show nsIn _ _ _ = _); k_is) | ((with_reducible show plainGet _ _ _ = _); k_is) | ((with_reducible show hasDictIn _ _ = _); k_is) | ((with_reducible show findIn _ _ _ = _); k_is) | ((with_reducible show noGet _ _ = _); k_is) | ((with_reducible show Stores _ _); first | exact Or.inl rfl | exact Or.inr ⟨rfl, rfl⟩) | ((with_reducible show (_ == _) = false); decide) | ((with_reducible show behindInMarks _ _ = _); with_unfolding_all rfl) | ((with_reducible show _ ≤ _); decide) | ((with_reducible show _ = _); rfl) | ((with_reducible show ∀ _, _ = _); intro _; rfl) | ((with_reducible show ∀ _ _, _ = _); intro _ _; rfl) | ((with_reducible show ∀ _ _ _, _ = _); intro _ _ _; rfl) | (with_reducible refine' bt_val ?_ ?_))
                          case ke => exact xs_nil
                          case ki =>
                            with_reducible refine' bt_bool ?kk
                            case kk =>
                              with_reducible refine' at_or_cons ?k1 ?k2
                              case k1 => repeat' (first | with_reducible exact ev_int _ _ _ | with_reducible exact ev_str _ _ _ | with_reducible exact ev_none _ _ | with_reducible exact ev_bool _ _ _ | (with_reducible refine' ev_name _ _ ?_ ?_) | (with_reducible refine' ev_binop ?_ ?_) | (with_reducible refine' ev_neg ?_) | (with_reducible refine' ev_cmp ?_ ?_ ?_) | (with_reducible refine' ev_ifexp ?_ ?_ ?_) | (with_reducible refine' ev_list ?_) | (with_reducible refine' ev_tuple ?_) | with_reducible exact es_nil | (with_reducible refine' es_cons ?_ ?_ ?_) | (with_reducible refine' ev_cut ?_ ?_ ?_) | (with_reducible refine' ev_idx ?_ ?_ ?_) | with_reducible exact pt_none | (with_reducible refine' pt_some ?_) | (with_reducible refine' bt_cmp ?_ ?_ ?_) | (with_reducible refine' bt_not ?_) | (with_reducible refine' bt_bool ?_) | with_reducible exact at_and_nil | with_reducible exact at_or_nil | (with_reducible refine' at_and_cons ?_ ?_) | (with_reducible refine' at_or_cons ?_ ?_) | with_reducible exact xs_nil | (with_reducible refine' xs_cons ?_ ?_) | (with_reducible refine' st_assign ?_ ?_ ?_) | (with_reducible refine' st_aug ?_ ?_ ?_) | (with_reducible refine' st_if ?_ ?_ ?_) | (with_reducible refine' st_append ?_ ?_ ?_ ?_ ?_ ?_) | (with_reducible refine' st_augidx ?_ ?_ ?_ ?_) | (with_reducible refine' st_ret ?_) | with_reducible exact st_ret0 | with_reducible exact st_cont | with_reducible exact st_pass | (with_reducible refine' st_while ?_ ?_) | (with_reducible refine' st_for ?_ (as_name ?_) ?_ ?_ ?_) | (with_reducible refine' ev_len (by assumption) ?_ ?_ ?_ ?_ ?_ ?_ ?_ ?_) | (with_reducible refine' ev_chr (by assumption) ?_ ?_ ?_ ?_ ?_ ?_ ?_ ?_) | (with_reducible refine' ev_range (by assumption) ?_ ?_ ?_ ?_ ?_ ?_ ?_ ?_) | (with_reducible refine' ev_abs (by assumption) ?_ ?_ ?_ ?_ ?_ ?_ ?_ ?_) | (with_reducible refine' ev_count _ ?_ ?_ ?_ ?_ ?_) | (with_reducible refine' ev_split _ ?_ ?_ ?_ ?_ ?_) | (with_reducible refine' ev_index _ ?_ ?_ ?_ ?_) | (with_reducible refine' ev_attr (C := 111) (by assumption) ?_ ?_ ?_ ?_ ?_ ?_) | (with_reducible refine' st_swap2 (x := "row") (y := "whole") ?_ ?_ ?_ ?_ ?_) | (with_reducible refine' ev_fn (x := Str.ofString "_law_read") (f := 127) (by assumption) (by assumption) ?_ ?_ ?_ ?_ ?_ ?_ ?_ ?_ ?_) | (with_reducible refine' st_extend ?_ ?_ ?_ ?_ ?_ ?_) | (with_reducible refine' ev_html (by assumption) ?_ ?_ ?_ ?_ ?_ ?_ ?_) | (with_reducible refine' st_split _ 380 (by assumption) ?_ ?_ ?_ ?_ ?_ ?_ ?_ ?_) | with_reducible exact ts_nil | (with_reducible refine' ts_one ?_) | ((with_reducible show nsIn _ _ _ = _); k_is) | ((with_reducible show plainGet _ _ _ = _); k_is) | ((with_reducible show hasDictIn _ _ = _); k_is) | ((with_reducible show findIn _ _ _ = _); k_is) | ((with_reducible show noGet _ _ = _); k_is) | ((with_reducible show Stores _ _); first | exact Or.inl rfl | exact Or.inr ⟨rfl, rfl⟩) | ((with_reducible show (_ == _) = false); decide) | ((with_reducible show behindInMarks _ _ = _); with_unfolding_all rfl) | ((with_reducible show _ ≤ _); decide) | ((with_reducible show _ = _); rfl) | ((with_reducible show ∀ _, _ = _); intro _; rfl) | ((with_reducible show ∀ _ _, _ = _); intro _ _; rfl) | ((with_reducible show ∀ _ _ _, _ = _); intro _ _ _; rfl) | (with_reducible refine' bt_val ?_ ?_))
                              case k2 =>
                                with_reducible refine' at_or_cons ?k3 ?k4
                                case k4 => exact at_or_nil
                                case k3 =>
                                  with_reducible refine' bt_cmp ?k5 ?k6 ?k7
                                  case k7 => with_unfolding_all rfl
                                  case k5 =>
                                    refine' ev_compT (caps := []) ?cti ?ctc ?ctp ?ctl ?ctn ?cta ?ctf ?cte ?cts
                                    case ctc => rfl
                                    case ctp => exact ⟨fun p hp => (nomatch hp), List.nodup_nil, rfl, fun C y hy => (nomatch hy)⟩
                                    case ctl => decide
                                    case ctn => decide
                                    case cta => exact fun C => ac_tuple2 (ac_name rfl) (ac_name rfl) rfl rfl
                                    case ctf => rintro _ _ _ ⟨_, _, rfl, _⟩; exact ⟨_, rfl⟩
                                    case cts => intro _; rfl
                                    case cti => repeat' (first | with_reducible exact ev_int _ _ _ | with_reducible exact ev_str _ _ _ | with_reducible exact ev_none _ _ | with_reducible exact ev_bool _ _ _ | (with_reducible refine' ev_name _ _ ?_ ?_) | (with_reducible refine' ev_binop ?_ ?_) | (with_reducible refine' ev_neg ?_) | (with_reducible refine' ev_cmp ?_ ?_ ?_) | (with_reducible refine' ev_ifexp ?_ ?_ ?_) | (with_reducible refine' ev_list ?_) | (with_reducible refine' ev_tuple ?_) | with_reducible exact es_nil | (with_reducible refine' es_cons ?_ ?_ ?_) | (with_reducible refine' ev_cut ?_ ?_ ?_) | (with_reducible refine' ev_idx ?_ ?_ ?_) | with_reducible exact pt_none | (with_reducible refine' pt_some ?_) | (with_reducible refine' bt_cmp ?_ ?_ ?_) | (with_reducible refine' bt_not ?_) | (with_reducible refine' bt_bool ?_) | with_reducible exact at_and_nil | with_reducible exact at_or_nil | (with_reducible refine' at_and_cons ?_ ?_) | (with_reducible refine' at_or_cons ?_ ?_) | with_reducible exact xs_nil | (with_reducible refine' xs_cons ?_ ?_) | (with_reducible refine' st_assign ?_ ?_ ?_) | (with_reducible refine' st_aug ?_ ?_ ?_) | (with_reducible refine' st_if ?_ ?_ ?_) | (with_reducible refine' st_append ?_ ?_ ?_ ?_ ?_ ?_) | (with_reducible refine' st_augidx ?_ ?_ ?_ ?_) | (with_reducible refine' st_ret ?_) | with_reducible exact st_ret0 | with_reducible exact st_cont | with_reducible exact st_pass | (with_reducible refine' st_while ?_ ?_) | (with_reducible refine' st_for ?_ (as_name ?_) ?_ ?_ ?_) | (with_reducible refine' ev_len (by assumption) ?_ ?_ ?_ ?_ ?_ ?_ ?_ ?_) | (with_reducible refine' ev_chr (by assumption) ?_ ?_ ?_ ?_ ?_ ?_ ?_ ?_) | (with_reducible refine' ev_range (by assumption) ?_ ?_ ?_ ?_ ?_ ?_ ?_ ?_) | (with_reducible refine' ev_abs (by assumption) ?_ ?_ ?_ ?_ ?_ ?_ ?_ ?_) | (with_reducible refine' ev_count _ ?_ ?_ ?_ ?_ ?_) | (with_reducible refine' ev_split _ ?_ ?_ ?_ ?_ ?_) | (with_reducible refine' ev_index _ ?_ ?_ ?_ ?_) | (with_reducible refine' ev_attr (C := 111) (by assumption) ?_ ?_ ?_ ?_ ?_ ?_) | (with_reducible refine' st_swap2 (x := "row") (y := "whole") ?_ ?_ ?_ ?_ ?_) | (with_reducible refine' ev_fn (x := Str.ofString "_law_read") (f := 127) (by assumption) (by assumption) ?_ ?_ ?_ ?_ ?_ ?_ ?_ ?_ ?_) | (with_reducible refine' st_extend ?_ ?_ ?_ ?_ ?_ ?_) | (with_reducible refine' ev_html (by assumption) ?_ ?_ ?_ ?_ ?_ ?_ ?_) | (with_reducible refine' st_split _ 380 (by assumption) ?_ ?_ ?_ ?_ ?_ ?_ ?_ ?_) | with_reducible exact ts_nil | (with_reducible refine' ts_one ?_) | ((with_reducible show nsIn _ _ _ = _); k_is) | ((with_reducible show plainGet _ _ _ = _); k_is) | ((with_reducible show hasDictIn _ _ = _); k_is) | ((with_reducible show findIn _ _ _ = _); k_is) | ((with_reducible show noGet _ _ = _); k_is) | ((with_reducible show Stores _ _); first | exact Or.inl rfl | exact Or.inr ⟨rfl, rfl⟩) | ((with_reducible show (_ == _) = false); decide) | ((with_reducible show behindInMarks _ _ = _); with_unfolding_all rfl) | ((with_reducible show _ ≤ _); decide) | ((with_reducible show _ = _); rfl) | ((with_reducible show ∀ _, _ = _); intro _; rfl) | ((with_reducible show ∀ _ _, _ = _); intro _ _; rfl) | ((with_reducible show ∀ _ _ _, _ = _); intro _ _ _; rfl) | (with_reducible refine' bt_val ?_ ?_))
                                    case cte => intro C; repeat' (first | with_reducible exact ev_int _ _ _ | with_reducible exact ev_str _ _ _ | with_reducible exact ev_none _ _ | with_reducible exact ev_bool _ _ _ | (with_reducible refine' ev_name _ _ ?_ ?_) | (with_reducible refine' ev_binop ?_ ?_) | (with_reducible refine' ev_neg ?_) | (with_reducible refine' ev_cmp ?_ ?_ ?_) | (with_reducible refine' ev_ifexp ?_ ?_ ?_) | (with_reducible refine' ev_list ?_) | (with_reducible refine' ev_tuple ?_) | with_reducible exact es_nil | (with_reducible refine' es_cons ?_ ?_ ?_) | (with_reducible refine' ev_cut ?_ ?_ ?_) | (with_reducible refine' ev_idx ?_ ?_ ?_) | with_reducible exact pt_none | (with_reducible refine' pt_some ?_) | (with_reducible refine' bt_cmp ?_ ?_ ?_) | (with_reducible refine' bt_not ?_) | (with_reducible refine' bt_bool ?_) | with_reducible exact at_and_nil | with_reducible exact at_or_nil | (with_reducible refine' at_and_cons ?_ ?_) | (with_reducible refine' at_or_cons ?_ ?_) | with_reducible exact xs_nil | (with_reducible refine' xs_cons ?_ ?_) | (with_reducible refine' st_assign ?_ ?_ ?_) | (with_reducible refine' st_aug ?_ ?_ ?_) | (with_reducible refine' st_if ?_ ?_ ?_) | (with_reducible refine' st_append ?_ ?_ ?_ ?_ ?_ ?_) | (with_reducible refine' st_augidx ?_ ?_ ?_ ?_) | (with_reducible refine' st_ret ?_) | with_reducible exact st_ret0 | with_reducible exact st_cont | with_reducible exact st_pass | (with_reducible refine' st_while ?_ ?_) | (with_reducible refine' st_for ?_ (as_name ?_) ?_ ?_ ?_) | (with_reducible refine' ev_len (by assumption) ?_ ?_ ?_ ?_ ?_ ?_ ?_ ?_) | (with_reducible refine' ev_chr (by assumption) ?_ ?_ ?_ ?_ ?_ ?_ ?_ ?_) | (with_reducible refine' ev_range (by assumption) ?_ ?_ ?_ ?_ ?_ ?_ ?_ ?_) | (with_reducible refine' ev_abs (by assumption) ?_ ?_ ?_ ?_ ?_ ?_ ?_ ?_) | (with_reducible refine' ev_count _ ?_ ?_ ?_ ?_ ?_) | (with_reducible refine' ev_split _ ?_ ?_ ?_ ?_ ?_) | (with_reducible refine' ev_index _ ?_ ?_ ?_ ?_) | (with_reducible refine' ev_attr (C := 111) (by assumption) ?_ ?_ ?_ ?_ ?_ ?_) | (with_reducible refine' st_swap2 (x := "row") (y := "whole") ?_ ?_ ?_ ?_ ?_) | (with_reducible refine' ev_fn (x := Str.ofString "_law_read") (f := 127) (by assumption) (by assumption) ?_ ?_ ?_ ?_ ?_ ?_ ?_ ?_ ?_) | (with_reducible refine' st_extend ?_ ?_ ?_ ?_ ?_ ?_) | (with_reducible refine' ev_html (by assumption) ?_ ?_ ?_ ?_ ?_ ?_ ?_) | (with_reducible refine' st_split _ 380 (by assumption) ?_ ?_ ?_ ?_ ?_ ?_ ?_ ?_) | with_reducible exact ts_nil | (with_reducible refine' ts_one ?_) | ((with_reducible show nsIn _ _ _ = _); k_is) | ((with_reducible show plainGet _ _ _ = _); k_is) | ((with_reducible show hasDictIn _ _ = _); k_is) | ((with_reducible show findIn _ _ _ = _); k_is) | ((with_reducible show noGet _ _ = _); k_is) | ((with_reducible show Stores _ _); first | exact Or.inl rfl | exact Or.inr ⟨rfl, rfl⟩) | ((with_reducible show (_ == _) = false); decide) | ((with_reducible show behindInMarks _ _ = _); with_unfolding_all rfl) | ((with_reducible show _ ≤ _); decide) | ((with_reducible show _ = _); rfl) | ((with_reducible show ∀ _, _ = _); intro _; rfl) | ((with_reducible show ∀ _ _, _ = _); intro _ _; rfl) | ((with_reducible show ∀ _ _ _, _ = _); intro _ _ _; rfl) | (with_reducible refine' bt_val ?_ ?_))
                                  case k6 =>
                                    with_reducible refine' ev_binop ?k8 ?k9
                                    case k8 => repeat' (first | with_reducible exact ev_int _ _ _ | with_reducible exact ev_str _ _ _ | with_reducible exact ev_none _ _ | with_reducible exact ev_bool _ _ _ | (with_reducible refine' ev_name _ _ ?_ ?_) | (with_reducible refine' ev_binop ?_ ?_) | (with_reducible refine' ev_neg ?_) | (with_reducible refine' ev_cmp ?_ ?_ ?_) | (with_reducible refine' ev_ifexp ?_ ?_ ?_) | (with_reducible refine' ev_list ?_) | (with_reducible refine' ev_tuple ?_) | with_reducible exact es_nil | (with_reducible refine' es_cons ?_ ?_ ?_) | (with_reducible refine' ev_cut ?_ ?_ ?_) | (with_reducible refine' ev_idx ?_ ?_ ?_) | with_reducible exact pt_none | (with_reducible refine' pt_some ?_) | (with_reducible refine' bt_cmp ?_ ?_ ?_) | (with_reducible refine' bt_not ?_) | (with_reducible refine' bt_bool ?_) | with_reducible exact at_and_nil | with_reducible exact at_or_nil | (with_reducible refine' at_and_cons ?_ ?_) | (with_reducible refine' at_or_cons ?_ ?_) | with_reducible exact xs_nil | (with_reducible refine' xs_cons ?_ ?_) | (with_reducible refine' st_assign ?_ ?_ ?_) | (with_reducible refine' st_aug ?_ ?_ ?_) | (with_reducible refine' st_if ?_ ?_ ?_) | (with_reducible refine' st_append ?_ ?_ ?_ ?_ ?_ ?_) | (with_reducible refine' st_augidx ?_ ?_ ?_ ?_) | (with_reducible refine' st_ret ?_) | with_reducible exact st_ret0 | with_reducible exact st_cont | with_reducible exact st_pass | (with_reducible refine' st_while ?_ ?_) | (with_reducible refine' st_for ?_ (as_name ?_) ?_ ?_ ?_) | (with_reducible refine' ev_len (by assumption) ?_ ?_ ?_ ?_ ?_ ?_ ?_ ?_) | (with_reducible refine' ev_chr (by assumption) ?_ ?_ ?_ ?_ ?_ ?_ ?_ ?_) | (with_reducible refine' ev_range (by assumption) ?_ ?_ ?_ ?_ ?_ ?_ ?_ ?_) | (with_reducible refine' ev_abs (by assumption) ?_ ?_ ?_ ?_ ?_ ?_ ?_ ?_) | (with_reducible refine' ev_count _ ?_ ?_ ?_ ?_ ?_) | (with_reducible refine' ev_split _ ?_ ?_ ?_ ?_ ?_) | (with_reducible refine' ev_index _ ?_ ?_ ?_ ?_) | (with_reducible refine' ev_attr (C := 111) (by assumption) ?_ ?_ ?_ ?_ ?_ ?_) | (with_reducible refine' st_swap2 (x := "row") (y := "whole") ?_ ?_ ?_ ?_ ?_) | (with_reducible refine' ev_fn (x := Str.ofString "_law_read") (f := 127) (by assumption) (by assumption) ?_ ?_ ?_ ?_ ?_ ?_ ?_ ?_ ?_) | (with_reducible refine' st_extend ?_ ?_ ?_ ?_ ?_ ?_) | (with_reducible refine' ev_html (by assumption) ?_ ?_ ?_ ?_ ?_ ?_ ?_) | (with_reducible refine' st_split _ 380 (by assumption) ?_ ?_ ?_ ?_ ?_ ?_ ?_ ?_) | with_reducible exact ts_nil | (with_reducible refine' ts_one ?_) | ((with_reducible show nsIn _ _ _ = _); k_is) | ((with_reducible show plainGet _ _ _ = _); k_is) | ((with_reducible show hasDictIn _ _ = _); k_is) | ((with_reducible show findIn _ _ _ = _); k_is) | ((with_reducible show noGet _ _ = _); k_is) | ((with_reducible show Stores _ _); first | exact Or.inl rfl | exact Or.inr ⟨rfl, rfl⟩) | ((with_reducible show (_ == _) = false); decide) | ((with_reducible show behindInMarks _ _ = _); with_unfolding_all rfl) | ((with_reducible show _ ≤ _); decide) | ((with_reducible show _ = _); rfl) | ((with_reducible show ∀ _, _ = _); intro _; rfl) | ((with_reducible show ∀ _ _, _ = _); intro _ _; rfl) | ((with_reducible show ∀ _ _ _, _ = _); intro _ _ _; rfl) | (with_reducible refine' bt_val ?_ ?_))
                                    case k9 =>
                                      with_reducible refine' ev_lmul ?laK ?lbK
                                      case laK => repeat' (first | with_reducible exact ev_int _ _ _ | with_reducible exact ev_str _ _ _ | with_reducible exact ev_none _ _ | with_reducible exact ev_bool _ _ _ | (with_reducible refine' ev_name _ _ ?_ ?_) | (with_reducible refine' ev_binop ?_ ?_) | (with_reducible refine' ev_neg ?_) | (with_reducible refine' ev_cmp ?_ ?_ ?_) | (with_reducible refine' ev_ifexp ?_ ?_ ?_) | (with_reducible refine' ev_list ?_) | (with_reducible refine' ev_tuple ?_) | with_reducible exact es_nil | (with_reducible refine' es_cons ?_ ?_ ?_) | (with_reducible refine' ev_cut ?_ ?_ ?_) | (with_reducible refine' ev_idx ?_ ?_ ?_) | with_reducible exact pt_none | (with_reducible refine' pt_some ?_) | (with_reducible refine' bt_cmp ?_ ?_ ?_) | (with_reducible refine' bt_not ?_) | (with_reducible refine' bt_bool ?_) | with_reducible exact at_and_nil | with_reducible exact at_or_nil | (with_reducible refine' at_and_cons ?_ ?_) | (with_reducible refine' at_or_cons ?_ ?_) | with_reducible exact xs_nil | (with_reducible refine' xs_cons ?_ ?_) | (with_reducible refine' st_assign ?_ ?_ ?_) | (with_reducible refine' st_aug ?_ ?_ ?_) | (with_reducible refine' st_if ?_ ?_ ?_) | (with_reducible refine' st_append ?_ ?_ ?_ ?_ ?_ ?_) | (with_reducible refine' st_augidx ?_ ?_ ?_ ?_) | (with_reducible refine' st_ret ?_) | with_reducible exact st_ret0 | with_reducible exact st_cont | with_reducible exact st_pass | (with_reducible refine' st_while ?_ ?_) | (with_reducible refine' st_for ?_ (as_name ?_) ?_ ?_ ?_) | (with_reducible refine' ev_len (by assumption) ?_ ?_ ?_ ?_ ?_ ?_ ?_ ?_) | (with_reducible refine' ev_chr (by assumption) ?_ ?_ ?_ ?_ ?_ ?_ ?_ ?_) | (with_reducible refine' ev_range (by assumption) ?_ ?_ ?_ ?_ ?_ ?_ ?_ ?_) | (with_reducible refine' ev_abs (by assumption) ?_ ?_ ?_ ?_ ?_ ?_ ?_ ?_) | (with_reducible refine' ev_count _ ?_ ?_ ?_ ?_ ?_) | (with_reducible refine' ev_split _ ?_ ?_ ?_ ?_ ?_) | (with_reducible refine' ev_index _ ?_ ?_ ?_ ?_) | (with_reducible refine' ev_attr (C := 111) (by assumption) ?_ ?_ ?_ ?_ ?_ ?_) | (with_reducible refine' st_swap2 (x := "row") (y := "whole") ?_ ?_ ?_ ?_ ?_) | (with_reducible refine' ev_fn (x := Str.ofString "_law_read") (f := 127) (by assumption) (by assumption) ?_ ?_ ?_ ?_ ?_ ?_ ?_ ?_ ?_) | (with_reducible refine' st_extend ?_ ?_ ?_ ?_ ?_ ?_) | (with_reducible refine' ev_html (by assumption) ?_ ?_ ?_ ?_ ?_ ?_ ?_) | (with_reducible refine' st_split _ 380 (by assumption) ?_ ?_ ?_ ?_ ?_ ?_ ?_ ?_) | with_reducible exact ts_nil | (with_reducible refine' ts_one ?_) | ((with_reducible show nsIn _ _ _ = _); k_is) | ((with_reducible show plainGet _ _ _ = _); k_is) | ((with_reducible show hasDictIn _ _ = _); k_is) | ((with_reducible show findIn _ _ _ = _); k_is) | ((with_reducible show noGet _ _ = _); k_is) | ((with_reducible show Stores _ _); first | exact Or.inl rfl | exact Or.inr ⟨rfl, rfl⟩) | ((with_reducible show (_ == _) = false); decide) | ((with_reducible show behindInMarks _ _ = _); with_unfolding_all rfl) | ((with_reducible show _ ≤ _); decide) | ((with_reducible show _ = _); rfl) | ((with_reducible show ∀ _, _ = _); intro _; rfl) | ((with_reducible show ∀ _ _, _ = _); intro _ _; rfl) | ((with_reducible show ∀ _ _ _, _ = _); intro _ _ _; rfl) | (with_reducible refine' bt_val ?_ ?_))
                                      case lbK => repeat' (first | with_reducible exact ev_int _ _ _ | with_reducible exact ev_str _ _ _ | with_reducible exact ev_none _ _ | with_reducible exact ev_bool _ _ _ | (with_reducible refine' ev_name _ _ ?_ ?_) | (with_reducible refine' ev_binop ?_ ?_) | (with_reducible refine' ev_neg ?_) | (with_reducible refine' ev_cmp ?_ ?_ ?_) | (with_reducible refine' ev_ifexp ?_ ?_ ?_) | (with_reducible refine' ev_list ?_) | (with_reducible refine' ev_tuple ?_) | with_reducible exact es_nil | (with_reducible refine' es_cons ?_ ?_ ?_) | (with_reducible refine' ev_cut ?_ ?_ ?_) | (with_reducible refine' ev_idx ?_ ?_ ?_) | with_reducible exact pt_none | (with_reducible refine' pt_some ?_) | (with_reducible refine' bt_cmp ?_ ?_ ?_) | (with_reducible refine' bt_not ?_) | (with_reducible refine' bt_bool ?_) | with_reducible exact at_and_nil | with_reducible exact at_or_nil | (with_reducible refine' at_and_cons ?_ ?_) | (with_reducible refine' at_or_cons ?_ ?_) | with_reducible exact xs_nil | (with_reducible refine' xs_cons ?_ ?_) | (with_reducible refine' st_assign ?_ ?_ ?_) | (with_reducible refine' st_aug ?_ ?_ ?_) | (with_reducible refine' st_if ?_ ?_ ?_) | (with_reducible refine' st_append ?_ ?_ ?_ ?_ ?_ ?_) | (with_reducible refine' st_augidx ?_ ?_ ?_ ?_) | (with_reducible refine' st_ret ?_) | with_reducible exact st_ret0 | with_reducible exact st_cont | with_reducible exact st_pass | (with_reducible refine' st_while ?_ ?_) | (with_reducible refine' st_for ?_ (as_name ?_) ?_ ?_ ?_) | (with_reducible refine' ev_len (by assumption) ?_ ?_ ?_ ?_ ?_ ?_ ?_ ?_) | (with_reducible refine' ev_chr (by assumption) ?_ ?_ ?_ ?_ ?_ ?_ ?_ ?_) | (with_reducible refine' ev_range (by assumption) ?_ ?_ ?_ ?_ ?_ ?_ ?_ ?_) | (with_reducible refine' ev_abs (by assumption) ?_ ?_ ?_ ?_ ?_ ?_ ?_ ?_) | (with_reducible refine' ev_count _ ?_ ?_ ?_ ?_ ?_) | (with_reducible refine' ev_split _ ?_ ?_ ?_ ?_ ?_) | (with_reducible refine' ev_index _ ?_ ?_ ?_ ?_) | (with_reducible refine' ev_attr (C := 111) (by assumption) ?_ ?_ ?_ ?_ ?_ ?_) | (with_reducible refine' st_swap2 (x := "row") (y := "whole") ?_ ?_ ?_ ?_ ?_) | (with_reducible refine' ev_fn (x := Str.ofString "_law_read") (f := 127) (by assumption) (by assumption) ?_ ?_ ?_ ?_ ?_ ?_ ?_ ?_ ?_) | (with_reducible refine' st_extend ?_ ?_ ?_ ?_ ?_ ?_) | (with_reducible refine' ev_html (by assumption) ?_ ?_ ?_ ?_ ?_ ?_ ?_) | (with_reducible refine' st_split _ 380 (by assumption) ?_ ?_ ?_ ?_ ?_ ?_ ?_ ?_) | with_reducible exact ts_nil | (with_reducible refine' ts_one ?_) | ((with_reducible show nsIn _ _ _ = _); k_is) | ((with_reducible show plainGet _ _ _ = _); k_is) | ((with_reducible show hasDictIn _ _ = _); k_is) | ((with_reducible show findIn _ _ _ = _); k_is) | ((with_reducible show noGet _ _ = _); k_is) | ((with_reducible show Stores _ _); first | exact Or.inl rfl | exact Or.inr ⟨rfl, rfl⟩) | ((with_reducible show (_ == _) = false); decide) | ((with_reducible show behindInMarks _ _ = _); with_unfolding_all rfl) | ((with_reducible show _ ≤ _); decide) | ((with_reducible show _ = _); rfl) | ((with_reducible show ∀ _, _ = _); intro _; rfl) | ((with_reducible show ∀ _ _, _ = _); intro _ _; rfl) | ((with_reducible show ∀ _ _ _, _ = _); intro _ _ _; rfl) | (with_reducible refine' bt_val ?_ ?_))
                        case mmChkS =>
                          intro σ Q hh
                          refine hide fun Gh kh => ?_
                          obtain ⟨number, tr, t, P, M, hn, hP, hM, n1, n2, n3, hH, hQ⟩ := hh
                          refine kh ?_
                          clear kh Gh
                          have hrl : (rowsOf number P).length = M + 1 := by rw [rowsOf_len, hP]
                          have gk : ∀ n, Gd σ.H (n + 1) keptP := fun n => .tup (.cons (.int _ _) (.cons (.str _ (strOk_mk (l := (Str.ofString "kept").cps.toList) ofSk)) (.nil _)))
                          have hc1 : cut (keptP :: rowsOf number P) none (some 1) = [keptP] := (cut_hi _ 1).trans rfl
                          have hc2 : cut (keptP :: rowsOf number P) (some 1) none = rowsOf number P := (cut_lo _ 1).trans rfl
                          refine get_W n2 ⟨_, rfl, _, lstOf_ref hH, by rw [sizeLine_eq]; simp; (first | lia | omega), listW_lst ?_⟩
                          rw [hc1]
                          refine ⟨by rw [sizeLine_eq]; simp, by rw [sizeLine_eq]; simp, listW_lst ?_⟩
                          refine ne_same ⟨_, rfl⟩ (.lst (.cons (gk _) (.nil _))) (PySem.W.ite_neg (by decide) ?_)
                          refine get_W n2 ⟨_, rfl, _, lstOf_ref hH, by rw [sizeLine_eq]; simp; (first | lia | omega), listW_lst ⟨_, rfl, ?_, ?_⟩⟩
                          · rw [hc2, sizeLine_eq]; (first | lia | omega)
                          rw [hc2]
                          refine compW_map rowKind _ (fun p hp R1 hr => ?_) ?_
                          · have ht : ∃ x y, p = .tup [x, y] := by
                              cases P with
                              | nil => cases hp
                              | cons q ps =>
                                rcases List.mem_cons.mp hp with rfl | hp
                                · exact ⟨_, _, rfl⟩
                                · obtain ⟨r, _, rfl⟩ := List.mem_map.mp hp; exact ⟨_, _, rfl⟩
                            obtain ⟨x, y, rfl⟩ := ht
                            exact ⟨x, y, rfl, get_W rfl hr⟩
                          rw [kinds number P M hP, ofSg]
                          refine listW_lst (get_W n1 ⟨by rw [sizeLine_eq]; simp, listW_lst ⟨by rw [sizeLine_eq]; simp, listW_lst (get_W n3 (bin_subI ?_))⟩⟩)
                          rw [show (((M + 1 : Nat) : Int) - 1) = ((M : Nat) : Int) by (first | lia | omega)]
                          refine ⟨_, _, rfl, rfl, by (first | lia | omega), by simp; (first | lia | omega), listW_lst (bin_addLL ?_ (listW_lst ?_))⟩
                          · rw [Int.toNat_natCast, sizeLine_eq]; simp; (first | lia | omega)
                          rw [Int.toNat_natCast]
                          refine ne_same ⟨_, rfl⟩ (.lst (.cons (hn.gd _ _) (Gds.of fun p hp => ?_))) (PySem.W.ite_neg (by decide) (PySem.W.ite_neg (by decide) hQ))
                          obtain ⟨l, hl, hp⟩ := List.mem_flatten.mp hp
                          rw [(List.mem_replicate.mp hl).2] at hp
                          rw [List.mem_singleton.mp hp]
                          exact .str _ (strOk_mk fun c hc => by rw [List.mem_singleton.mp hc]; decide)
                      case tq5 =>
                        with_reducible refine' xs_cons ?sq6 ?tq6
                        case sq6 =>
                          refine' st_swap2 (x := "cells") (y := "whole") ?sc1 rfl rfl ?sc2 ?sc3
                          case sc2 => exact Or.inl rfl
                          case sc3 => exact Or.inl rfl
                          case sc1 =>
                            with_reducible refine' ev_tuple ?sc4
                            case sc4 =>
                              with_reducible refine' es_cons ?sc5 ?sc6 ?sc7
                              case sc7 => rfl
                              case sc6 => repeat' (first | with_reducible exact ev_int _ _ _ | with_reducible exact ev_str _ _ _ | with_reducible exact ev_none _ _ | with_reducible exact ev_bool _ _ _ | (with_reducible refine' ev_name _ _ ?_ ?_) | (with_reducible refine' ev_binop ?_ ?_) | (with_reducible refine' ev_neg ?_) | (with_reducible refine' ev_cmp ?_ ?_ ?_) | (with_reducible refine' ev_ifexp ?_ ?_ ?_) | (with_reducible refine' ev_list ?_) | (with_reducible refine' ev_tuple ?_) | with_reducible exact es_nil | (with_reducible refine' es_cons ?_ ?_ ?_) | (with_reducible refine' ev_cut ?_ ?_ ?_) | (with_reducible refine' ev_idx ?_ ?_ ?_) | with_reducible exact pt_none | (with_reducible refine' pt_some ?_) | (with_reducible refine' bt_cmp ?_ ?_ ?_) | (with_reducible refine' bt_not ?_) | (with_reducible refine' bt_bool ?_) | with_reducible exact at_and_nil | with_reducible exact at_or_nil | (with_reducible refine' at_and_cons ?_ ?_) | (with_reducible refine' at_or_cons ?_ ?_) | with_reducible exact xs_nil | (with_reducible refine' xs_cons ?_ ?_) | (with_reducible refine' st_assign ?_ ?_ ?_) | (with_reducible refine' st_aug ?_ ?_ ?_) | (with_reducible refine' st_if ?_ ?_ ?_) | (with_reducible refine' st_append ?_ ?_ ?_ ?_ ?_ ?_) | (with_reducible refine' st_augidx ?_ ?_ ?_ ?_) | (with_reducible refine' st_ret ?_) | with_reducible exact st_ret0 | with_reducible exact st_cont | with_reducible exact st_pass | (with_reducible refine' st_while ?_ ?_) | (with_reducible refine' st_for ?_ (as_name ?_) ?_ ?_ ?_) | (with_reducible refine' ev_len (by assumption) ?_ ?_ ?_ ?_ ?_ ?_ ?_ ?_) | (with_reducible refine' ev_chr (by assumption) ?_ ?_ ?_ ?_ ?_ ?_ ?_ ?_) | (with_reducible refine' ev_range (by assumption) ?_ ?_ ?_ ?_ ?_ ?_ ?_ ?_) | (with_reducible refine' ev_abs (by assumption) ?_ ?_ ?_ ?_ ?_ ?_ ?_ ?_) | (with_reducible refine' ev_count _ ?_ ?_ ?_ ?_ ?_) | (with_reducible refine' ev_split _ ?_ ?_ ?_ ?_ ?_) | (with_reducible refine' ev_index _ ?_ ?_ ?_ ?_) | (with_reducible refine' ev_attr (C := 111) (by assumption) ?_ ?_ ?_ ?_ ?_ ?_) | (with_reducible refine' st_swap2 (x := "row") (y := "whole") ?_ ?_ ?_ ?_ ?_) | (with_reducible refine' ev_fn (x := Str.ofString "_law_read") (f := 127) (by assumption) (by assumption) ?_ ?_ ?_ ?_ ?_ ?_ ?_ ?_ ?_) | (with_reducible refine' st_extend ?_ ?_ ?_ ?_ ?_ ?_) | (with_reducible refine' ev_html (by assumption) ?_ ?_ ?_ ?_ ?_ ?_ ?_) | (with_reducible refine' st_split _ 380 (by assumption) ?_ ?_ ?_ ?_ ?_ ?_ ?_ ?_) | with_reducible exact ts_nil | (with_reducible refine' ts_one ?_) | ((with_reducible show nsIn _ _ _ = _); k_is) | ((with_reducible show plainGet _ _ _ = _); k_is) | ((with_reducible show hasDictIn _ _ = _); k_is) | ((with_reducible show findIn _ _ _ = _); k_is) | ((with_reducible show noGet _ _ = _); k_is) | ((with_reducible show Stores _ _); first | exact Or.inl rfl | exact Or.inr ⟨rfl, rfl⟩) | ((with_reducible show (_ == _) = false); decide) | ((with_reducible show behindInMarks _ _ = _); with_unfolding_all rfl) | ((with_reducible show _ ≤ _); decide) | ((with_reducible show _ = _); rfl) | ((with_reducible show ∀ _, _ = _); intro _; rfl) | ((with_reducible show ∀ _ _, _ = _); intro _ _; rfl) | ((with_reducible show ∀ _ _ _, _ = _); intro _ _ _; rfl) | (with_reducible refine' bt_val ?_ ?_))
                              case sc5 =>
                                refine' ev_listzip (by assumption) ?z1B ?z2B ?z3B ?z4B ?z5B ?z6B ?z7B ?z8B ?z9B ?zaB ?zbB ?zcB ?zdB ?zeB ?zfB
                                case z1B => k_is
                                case z2B => k_is
                                case z7B => repeat' (first | with_reducible exact ev_int _ _ _ | with_reducible exact ev_str _ _ _ | with_reducible exact ev_none _ _ | with_reducible exact ev_bool _ _ _ | (with_reducible refine' ev_name _ _ ?_ ?_) | (with_reducible refine' ev_binop ?_ ?_) | (with_reducible refine' ev_neg ?_) | (with_reducible refine' ev_cmp ?_ ?_ ?_) | (with_reducible refine' ev_ifexp ?_ ?_ ?_) | (with_reducible refine' ev_list ?_) | (with_reducible refine' ev_tuple ?_) | with_reducible exact es_nil | (with_reducible refine' es_cons ?_ ?_ ?_) | (with_reducible refine' ev_cut ?_ ?_ ?_) | (with_reducible refine' ev_idx ?_ ?_ ?_) | with_reducible exact pt_none | (with_reducible refine' pt_some ?_) | (with_reducible refine' bt_cmp ?_ ?_ ?_) | (with_reducible refine' bt_not ?_) | (with_reducible refine' bt_bool ?_) | with_reducible exact at_and_nil | with_reducible exact at_or_nil | (with_reducible refine' at_and_cons ?_ ?_) | (with_reducible refine' at_or_cons ?_ ?_) | with_reducible exact xs_nil | (with_reducible refine' xs_cons ?_ ?_) | (with_reducible refine' st_assign ?_ ?_ ?_) | (with_reducible refine' st_aug ?_ ?_ ?_) | (with_reducible refine' st_if ?_ ?_ ?_) | (with_reducible refine' st_append ?_ ?_ ?_ ?_ ?_ ?_) | (with_reducible refine' st_augidx ?_ ?_ ?_ ?_) | (with_reducible refine' st_ret ?_) | with_reducible exact st_ret0 | with_reducible exact st_cont | with_reducible exact st_pass | (with_reducible refine' st_while ?_ ?_) | (with_reducible refine' st_for ?_ (as_name ?_) ?_ ?_ ?_) | (with_reducible refine' ev_len (by assumption) ?_ ?_ ?_ ?_ ?_ ?_ ?_ ?_) | (with_reducible refine' ev_chr (by assumption) ?_ ?_ ?_ ?_ ?_ ?_ ?_ ?_) | (with_reducible refine' ev_range (by assumption) ?_ ?_ ?_ ?_ ?_ ?_ ?_ ?_) | (with_reducible refine' ev_abs (by assumption) ?_ ?_ ?_ ?_ ?_ ?_ ?_ ?_) | (with_reducible refine' ev_count _ ?_ ?_ ?_ ?_ ?_) | (with_reducible refine' ev_split _ ?_ ?_ ?_ ?_ ?_) | (with_reducible refine' ev_index _ ?_ ?_ ?_ ?_) | (with_reducible refine' ev_attr (C := 111) (by assumption) ?_ ?_ ?_ ?_ ?_ ?_) | (with_reducible refine' st_swap2 (x := "row") (y := "whole") ?_ ?_ ?_ ?_ ?_) | (with_reducible refine' ev_fn (x := Str.ofString "_law_read") (f := 127) (by assumption) (by assumption) ?_ ?_ ?_ ?_ ?_ ?_ ?_ ?_ ?_) | (with_reducible refine' st_extend ?_ ?_ ?_ ?_ ?_ ?_) | (with_reducible refine' ev_html (by assumption) ?_ ?_ ?_ ?_ ?_ ?_ ?_) | (with_reducible refine' st_split _ 380 (by assumption) ?_ ?_ ?_ ?_ ?_ ?_ ?_ ?_) | with_reducible exact ts_nil | (with_reducible refine' ts_one ?_) | ((with_reducible show nsIn _ _ _ = _); k_is) | ((with_reducible show plainGet _ _ _ = _); k_is) | ((with_reducible show hasDictIn _ _ = _); k_is) | ((with_reducible show findIn _ _ _ = _); k_is) | ((with_reducible show noGet _ _ = _); k_is) | ((with_reducible show Stores _ _); first | exact Or.inl rfl | exact Or.inr ⟨rfl, rfl⟩) | ((with_reducible show (_ == _) = false); decide) | ((with_reducible show behindInMarks _ _ = _); with_unfolding_all rfl) | ((with_reducible show _ ≤ _); decide) | ((with_reducible show _ = _); rfl) | ((with_reducible show ∀ _, _ = _); intro _; rfl) | ((with_reducible show ∀ _ _, _ = _); intro _ _; rfl) | ((with_reducible show ∀ _ _ _, _ = _); intro _ _ _; rfl) | (with_reducible refine' bt_val ?_ ?_))
                                case z8B => repeat' (first | with_reducible exact ev_int _ _ _ | with_reducible exact ev_str _ _ _ | with_reducible exact ev_none _ _ | with_reducible exact ev_bool _ _ _ | (with_reducible refine' ev_name _ _ ?_ ?_) | (with_reducible refine' ev_binop ?_ ?_) | (with_reducible refine' ev_neg ?_) | (with_reducible refine' ev_cmp ?_ ?_ ?_) | (with_reducible refine' ev_ifexp ?_ ?_ ?_) | (with_reducible refine' ev_list ?_) | (with_reducible refine' ev_tuple ?_) | with_reducible exact es_nil | (with_reducible refine' es_cons ?_ ?_ ?_) | (with_reducible refine' ev_cut ?_ ?_ ?_) | (with_reducible refine' ev_idx ?_ ?_ ?_) | with_reducible exact pt_none | (with_reducible refine' pt_some ?_) | (with_reducible refine' bt_cmp ?_ ?_ ?_) | (with_reducible refine' bt_not ?_) | (with_reducible refine' bt_bool ?_) | with_reducible exact at_and_nil | with_reducible exact at_or_nil | (with_reducible refine' at_and_cons ?_ ?_) | (with_reducible refine' at_or_cons ?_ ?_) | with_reducible exact xs_nil | (with_reducible refine' xs_cons ?_ ?_) | (with_reducible refine' st_assign ?_ ?_ ?_) | (with_reducible refine' st_aug ?_ ?_ ?_) | (with_reducible refine' st_if ?_ ?_ ?_) | (with_reducible refine' st_append ?_ ?_ ?_ ?_ ?_ ?_) | (with_reducible refine' st_augidx ?_ ?_ ?_ ?_) | (with_reducible refine' st_ret ?_) | with_reducible exact st_ret0 | with_reducible exact st_cont | with_reducible exact st_pass | (with_reducible refine' st_while ?_ ?_) | (with_reducible refine' st_for ?_ (as_name ?_) ?_ ?_ ?_) | (with_reducible refine' ev_len (by assumption) ?_ ?_ ?_ ?_ ?_ ?_ ?_ ?_) | (with_reducible refine' ev_chr (by assumption) ?_ ?_ ?_ ?_ ?_ ?_ ?_ ?_) | (with_reducible refine' ev_range (by assumption) ?_ ?_ ?_ ?_ ?_ ?_ ?_ ?_) | (with_reducible refine' ev_abs (by assumption) ?_ ?_ ?_ ?_ ?_ ?_ ?_ ?_) | (with_reducible refine' ev_count _ ?_ ?_ ?_ ?_ ?_) | (with_reducible refine' ev_split _ ?_ ?_ ?_ ?_ ?_) | (with_reducible refine' ev_index _ ?_ ?_ ?_ ?_) | (with_reducible refine' ev_attr (C := 111) (by assumption) ?_ ?_ ?_ ?_ ?_ ?_) | (with_reducible refine' st_swap2 (x := "row") (y := "whole") ?_ ?_ ?_ ?_ ?_) | (with_reducible refine' ev_fn (x := Str.ofString "_law_read") (f := 127) (by assumption) (by assumption) ?_ ?_ ?_ ?_ ?_ ?_ ?_ ?_ ?_) | (with_reducible refine' st_extend ?_ ?_ ?_ ?_ ?_ ?_) | (with_reducible refine' ev_html (by assumption) ?_ ?_ ?_ ?_ ?_ ?_ ?_) | (with_reducible refine' st_split _ 380 (by assumption) ?_ ?_ ?_ ?_ ?_ ?_ ?_ ?_) | with_reducible exact ts_nil | (with_reducible refine' ts_one ?_) | ((with_reducible show nsIn _ _ _ = _); k_is) | ((with_reducible show plainGet _ _ _ = _); k_is) | ((with_reducible show hasDictIn _ _ = _); k_is) | ((with_reducible show findIn _ _ _ = _); k_is) | ((with_reducible show noGet _ _ = _); k_is) | ((with_reducible show Stores _ _); first | exact Or.inl rfl | exact Or.inr ⟨rfl, rfl⟩) | ((with_reducible show (_ == _) = false); decide) | ((with_reducible show behindInMarks _ _ = _); with_unfolding_all rfl) | ((with_reducible show _ ≤ _); decide) | ((with_reducible show _ = _); rfl) | ((with_reducible show ∀ _, _ = _); intro _; rfl) | ((with_reducible show ∀ _ _, _ = _); intro _ _; rfl) | ((with_reducible show ∀ _ _ _, _ = _); intro _ _ _; rfl) | (with_reducible refine' bt_val ?_ ?_))
                                all_goals rfl
                        case tq6 =>
                          with_reducible refine' xs_cons ?sq7 ?tq7
                          case sq7 =>
                            refine' ExOk.mono (F' := LoopS) ?moLoopS ?mmLoopS
                            case moLoopS =>
                              repeat' (first | with_reducible exact ev_int _ _ _ | with_reducible exact ev_str _ _ _ | with_reducible exact ev_none _ _ | with_reducible exact ev_bool _ _ _ | (with_reducible refine' ev_name _ _ ?_ ?_) | (with_reducible refine' ev_binop ?_ ?_) | (with_reducible refine' ev_neg ?_) | (with_reducible refine' ev_cmp ?_ ?_ ?_) | (with_reducible refine' ev_ifexp ?_ ?_ ?_) | (with_reducible refine' ev_list ?_) | (with_reducible refine' ev_tuple ?_) | with_reducible exact es_nil | (with_reducible refine' es_cons ?_ ?_ ?_) | (with_reducible refine' ev_cut ?_ ?_ ?_) | (with_reducible refine' ev_idx ?_ ?_ ?_) | with_reducible exact pt_none | (with_reducible refine' pt_some ?_) | (with_reducible refine' bt_cmp ?_ ?_ ?_) | (with_reducible refine' bt_not ?_) | (with_reducible refine' bt_bool ?_) | with_reducible exact at_and_nil | with_reducible exact at_or_nil | (with_reducible refine' at_and_cons ?_ ?_) | (with_reducible refine' at_or_cons ?_ ?_) | with_reducible exact xs_nil | (with_reducible refine' xs_cons ?_ ?_) | (with_reducible refine' st_assign ?_ ?_ ?_) | (with_reducible refine' st_aug ?_ ?_ ?_) | (with_reducible refine' st_if ?_ ?_ ?_) | (with_reducible refine' st_append ?_ ?_ ?_ ?_ ?_ ?_) | (with_reducible refine' st_augidx ?_ ?_ ?_ ?_) | (with_reducible refine' st_ret ?_) | with_reducible exact st_ret0 | with_reducible exact st_cont | with_reducible exact st_pass | (with_reducible refine' st_while ?_ ?_) | (with_reducible refine' st_for ?_ (as_name ?_) ?_ ?_ ?_) | (with_reducible refine' ev_len (by assumption) ?_ ?_ ?_ ?_ ?_ ?_ ?_ ?_) | (with_reducible refine' ev_chr (by assumption) ?_ ?_ ?_ ?_ ?_ ?_ ?_ ?_) | (with_reducible refine' ev_range (by assumption) ?_ ?_ ?_ ?_ ?_ ?_ ?_ ?_) | (with_reducible refine' ev_abs (by assumption) ?_ ?_ ?_ ?_ ?_ ?_ ?_ ?_) | (with_reducible refine' ev_count _ ?_ ?_ ?_ ?_ ?_) | (with_reducible refine' ev_split _ ?_ ?_ ?_ ?_ ?_) | (with_reducible refine' ev_index _ ?_ ?_ ?_ ?_) | (with_reducible refine' ev_attr (C := 111) (by assumption) ?_ ?_ ?_ ?_ ?_ ?_) | (with_reducible refine' st_swap2 (x := "row") (y := "whole") ?_ ?_ ?_ ?_ ?_) | (with_reducible refine' ev_fn (x := Str.ofString "_law_read") (f := 127) (by assumption) (by assumption) ?_ ?_ ?_ ?_ ?_ ?_ ?_ ?_ ?_) | (with_reducible refine' st_extend ?_ ?_ ?_ ?_ ?_ ?_) | (with_reducible refine' ev_html (by assumption) ?_ ?_ ?_ ?_ ?_ ?_ ?_) | (with_reducible refine' st_split _ 380 (by assumption) ?_ ?_ ?_ ?_ ?_ ?_ ?_ ?_) | with_reducible exact ts_nil | (with_reducible refine' ts_one ?_) | ((with_reducible show nsIn _ _ _ = _); k_is) | ((with_reducible show plainGet _ _ _ = _); k_is) | ((with_reducible show hasDictIn _ _ = _); k_is) | ((with_reducible show findIn _ _ _ = _); k_is) | ((with_reducible show noGet _ _ = _); k_is) | ((with_reducible show Stores _ _); first | exact Or.inl rfl | exact Or.inr ⟨rfl, rfl⟩) | ((with_reducible show (_ == _) = false); decide) | ((with_reducible show behindInMarks _ _ = _); with_unfolding_all rfl) | ((with_reducible show _ ≤ _); decide) | ((with_reducible show _ = _); rfl) | ((with_reducible show ∀ _, _ = _); intro _; rfl) | ((with_reducible show ∀ _ _, _ = _); intro _ _; rfl) | ((with_reducible show ∀ _ _ _, _ = _); intro _ _ _; rfl) | (with_reducible refine' bt_val ?_ ?_))
                            case mmLoopS =>
                              intro σ0 Q hh
                              refine hide fun Gh kh => ?_
                              obtain ⟨T, cs, M, wd, t, rows, hPW, hcl, hcs, hcl1, hfl, hch, hM1, hM2, hM4, hw1, hw4, hrl, n1, n2, n3, n4, n5, hH, hrow, hQ⟩ := hh
                              refine kh ?_
                              clear kh Gh
                              refine get_W n1 (bin_subI ⟨1, rfl, 1, rfl, by decide, by decide, ?_⟩)
                              rw [show (((M + 1 : Nat) : Int) - 1) = ((M : Nat) : Int) by (first | lia | omega)]
                              refine ⟨_, trivial, iterOf_rng (small_ok (by (first | lia | omega)) (by decide) (by decide)), ?_⟩
                              rw [rngDown]
                              refine forW_inv (fun rest σ => ∃ i, i ≤ M + 1 ∧ rest = ((List.range (M + 1)).drop i).map (fun i => PV.int ((M - i : Nat) : Int)) ∧ SmL ["k", "row", "mark", "whole"] σ0 σ ∧ σ.H = σ0.H ∧ σ.loc "whole" = some (.str (mkS (whT wd M T i)))) ?step ?fin _ _ ?init
                              case init => exact ⟨0, by (first | lia | omega), by rw [List.drop_zero, List.map_map]; rfl, fun _ _ => rfl, rfl, n5⟩
                              case fin =>
                                rintro σ ⟨i, hi, er, e1, e2, e3⟩
                                have hi' : i = M + 1 := by
                                  have := congrArg List.length er
                                  simp at this; (first | lia | omega)
                                subst hi'
                                rw [whT_last] at e3
                                exact hQ σ e1 e3
                              case step =>
                                intro p r σ K hI kn kc
                                refine hide fun Gh kh => ?_
                                obtain ⟨k, i, rfl, hk, e1, e2, e3, hfin⟩ : ∃ k i : Nat, p = .int (k : Int) ∧ i + k = M ∧ SmL ["k", "row", "mark", "whole"] σ0 σ ∧ σ.H = σ0.H ∧ σ.loc "whole" = some (.str (mkS (whT wd M T i))) ∧
                                    ∀ σ', SmL ["k", "row", "mark", "whole"] σ σ' → σ'.H = σ.H → σ'.loc "whole" = some (.str (mkS (whT wd M T (i + 1)))) → K .next σ' := by
                                  clear kh
                                  obtain ⟨i, hi, er, e1, e2, e3⟩ := hI
                                  have hilt : i < M + 1 := by
                                    have := congrArg List.length er
                                    simp at this; (first | lia | omega)
                                  rw [List.drop_eq_getElem_cons (by rw [List.length_range]; exact hilt), List.map_cons, List.getElem_range] at er
                                  obtain ⟨rfl, rfl⟩ := List.cons.inj er
                                  exact ⟨M - i, i, rfl, by (first | lia | omega), e1, e2, e3, fun σ' q1 q2 q3 => kn _ ⟨i + 1, by (first | lia | omega), rfl, e1.trans q1, q2.trans e2, q3⟩⟩
                                clear hI kn kc
                                rw [← e2] at hH
                                have m1 : σ.loc "count" = _ := e1.get (by decide) n1
                                have m2 : σ.loc "wide" = _ := e1.get (by decide) n2
                                have m3 : σ.loc "told" = _ := e1.get (by decide) n3
                                have m4 : σ.loc "cells" = _ := e1.get (by decide) n4
                                obtain ⟨x, hx⟩ := hrow k (by (first | lia | omega))
                                obtain ⟨A, eA, hA1, hA2, hA3⟩ := pcn_tok wd M T hPW hcl (by rw [← cellsOf_len [], hcs]; exact hM2) k (by (first | lia | omega))
                                have hpl := pcn_len wd M T hPW k
                                have hwl := whT_len wd M T hPW i
                                have hkw : k * wd ≤ cs.length := by
                                  rcases hM1 with h | h
                                  · have : k = 0 := by (first | lia | omega)
                                    subst this; simp
                                  · have := Nat.mul_le_mul_right wd (show k ≤ M by (first | lia | omega)); (first | lia | omega)
                                refine kh ?_
                                clear kh Gh e1 n1 n2 n3 n4 n5 e2
                                refine seq_to ⟨(σ.loc.set "k" (.int (k : Int))).set "row" (.str (mkS (pcn wd M T k))), σ.H⟩ (fun R hR => get_W m3 (get_W rfl (bin_addI (idx_R hH (k := k + 1) (p := .tup [x, .str (mkS (pcn wd M T k))]) (by simpa using hx) (by simp; (first | lia | omega)) (idx_T (k := 1) rfl (by simp) hR))))) ?_
                                refine seq_to ⟨(σ.loc.set "k" (.int (k : Int))).set "row" (.str (mkS (pcn wd M T k))), σ.H⟩ (fun R hR => ?_) ?_
                                · have hrd' : ∀ (Q : PV → LH → Prop) (H : LH), Q (.lst ((cellsOf [] A).map cellP)) H → callW ["row"] Fr [.str (mkS (pcn wd M T k))] H Q := fun Q H hq => by
                                    rw [eA]; exact hrd A H Q hA1 hA2 (by rw [← eA]; (first | lia | omega)) hq
                                  refine get_W rfl ⟨rfl, hrd' _ _ ?_⟩
                                  refine get_W m4 (get_W rfl (get_W m2 (bin_mulI (mulI_ok ?_) ⟨_, rfl, get_W rfl (bin_addI (get_W m2 (bin_mulI (mulI_ok ?_) ⟨_, rfl, cut_L ?_ (listW_lst ?_)⟩)))⟩)))
                                  · exact PySem.intBits_le_64 (by (first | lia | omega)) (by (first | lia | omega))
                                  · exact PySem.intBits_le_64 (by (first | lia | omega)) (by (first | lia | omega))
                                  · rw [List.length_map, sizeLine_eq]; (first | lia | omega)
                                  rw [show ((k : Int) + 1) * (wd : Int) = (((k + 1) * wd : Nat) : Int) by push_cast; rfl, show (k : Int) * (wd : Int) = ((k * wd : Nat) : Int) by push_cast; rfl, cut_map, cut_mid _ _ _ hkw, show (k + 1) * wd - k * wd = wd by rw [Nat.add_mul, Nat.one_mul]; (first | lia | omega), hA3, hcs]
                                  exact ne_same ⟨_, rfl⟩ (.lst (cells_gd _ 58 fun x hx => hch x (List.mem_of_mem_drop (List.mem_of_mem_take hx)))) (PySem.W.ite_neg (by decide) hR)
                                clear eA hA1 hA2 hA3 A
                                refine hide fun Gh kh => ?_
                                obtain ⟨m, X, Y, hm, hX, hY, hXY, ha, hb⟩ : ∃ m X Y : List Nat, isMk m ∧ pcn wd M T k = X ++ post m ∧ whT wd M T i = pre m ++ Y ∧ X ++ Y = whT wd M T (i + 1) ∧ (k < M → m = mkF [] (cutA ((k + 1) * wd) T)) ∧ (¬ k < M → m = []) := by
                                  clear kh
                                  by_cases hlast : k < M
                                  · have hPA := (PW_app [] (cutA ((k + 1) * wd) T) (cutB ((k + 1) * wd) T)).mp (by rw [cut_app]; exact hPW)
                                    have ew : whT wd M T i = pre (mkF [] (cutA ((k + 1) * wd) T)) ++ flat (cutB ((k + 1) * wd) T) := by
                                      unfold whT; rw [if_neg (by (first | lia | omega)), show M + 1 - i = k + 1 by (first | lia | omega)]
                                    exact ⟨_, _, _, mkF_isMk [] _ hPA.1 (.inl rfl), pcn_mid wd M T k hlast, ew, whT_next wd M T k i hk (by (first | lia | omega)) _ _ _ rfl (pcn_mid wd M T k hlast) ew, fun _ => rfl, fun h => absurd hlast h⟩
                                  · have hkM : k = M := by (first | lia | omega)
                                    have hi0 : i = 0 := by (first | lia | omega)
                                    subst hkM hi0
                                    exact ⟨[], pcn wd k T k, whT wd k T 0, .inl rfl, by simp [post], rfl, whT_first wd k T hcl, fun h => absurd h hlast, fun _ => rfl⟩
                                refine kh ?_
                                clear kh Gh
                                rw [hX] at hpl
                                rw [hY] at hwl e3
                                rw [List.length_append] at hpl hwl
                                refine seq_to ⟨((σ.loc.set "k" (.int (k : Int))).set "row" (.str (mkS (pcn wd M T k)))).set "mark" (.str (mkS m)), σ.H⟩ (fun R hR => ?_) ?_
                                · refine get_W rfl (get_W m1 (bin_subI (cmp_ltI ?_)))
                                  by_cases hlast : k < M
                                  · have hk1 : (k + 1) * wd ≤ cs.length := by
                                      rcases hM1 with h | h
                                      · (first | lia | omega)
                                      · have := Nat.mul_le_mul_right wd (show k + 1 ≤ M by (first | lia | omega)); (first | lia | omega)
                                    have hk1' : 1 ≤ (k + 1) * wd := Nat.le_trans hw1 (Nat.le_mul_of_pos_left wd (by (first | lia | omega)))
                                    obtain ⟨c, hc⟩ := mark_at T [] ((k + 1) * wd - 1) (by rw [← cellsOf_len [], hcs]; (first | lia | omega))
                                    rw [show (k + 1) * wd - 1 + 1 = (k + 1) * wd by (first | lia | omega), hcs, ← ha hlast] at hc
                                    refine PySem.W.ite_pos (by rw [decide_eq_true_eq]; (first | lia | omega)) (get_W m4 (get_W rfl (bin_addI (get_W m2 (bin_mulI (mulI_ok (PySem.intBits_le_64 (by (first | lia | omega)) (by (first | lia | omega)))) (bin_subI ?_))))))
                                    rw [show ((k : Int) + 1) * (wd : Int) - 1 = (((k + 1) * wd - 1 : Nat) : Int) by rw [Int.ofNat_sub hk1']; push_cast; rfl]
                                    exact idx_L (k := (k + 1) * wd - 1) (p := cellP (c, m)) (by rw [List.getElem?_map, hc]; rfl) (by rw [List.length_map]; (first | lia | omega)) (idx_T (k := 1) rfl (by simp) hR)
                                  · rw [hb hlast] at hR
                                    refine PySem.W.ite_neg (by rw [decide_eq_true_eq]; (first | lia | omega)) ?_
                                    rw [ofSe]; exact hR
                                refine seq_ex (fun σ' => SmL ["k", "row", "mark", "whole"] σ σ' ∧ σ'.H = σ.H ∧ σ'.loc "row" = some (.str (mkS X)) ∧ σ'.loc "whole" = some (.str (mkS Y))) (fun R hR => ?_) ?_
                                · have hS : SmL ["k", "row", "mark", "whole"] σ ⟨((σ.loc.set "k" (.int (k : Int))).set "row" (.str (mkS (pcn wd M T k)))).set "mark" (.str (mkS m)), σ.H⟩ := (((SmL.refl _ σ).set (x := "k") (by decide)).set (x := "row") (by decide)).set (x := "mark") (by decide)
                                  rw [ofSe]
                                  refine get_W rfl (cmp_neS ?_)
                                  rw [ne_nilS]
                                  rcases hm with rfl | ⟨q, hq, rfl⟩
                                  · refine PySem.W.ite_neg (by decide) (hR _ ⟨hS, rfl, ?_, e3⟩)
                                    rw [hX, post, List.append_nil]; rfl
                                  · refine PySem.W.ite_pos rfl ?_
                                    refine seq_to ⟨((σ.loc.set "k" (.int (k : Int))).set "row" (.str (mkS (pcn wd M T k)))).set "mark" (.str (mkS [q])), σ.H⟩ (fun R' hR' => ?_) ?_
                                    · rw [ofS0]
                                      refine get_W e3 ⟨2, rfl, cut_S (by rw [mkS_len, sizeLine_eq, List.length_append]; (first | lia | omega)) (get_W rfl (bin_addS (x := mkS [0]) (y := mkS [q]) (by rw [mkS_len, mkS_len, sizeLine_eq]; simp) ?_))⟩
                                      rw [scut_mk, mkS_append, show cut (pre [q] ++ Y) none (some 2) = [0, q] from (cut_hi _ 2).trans rfl]
                                      exact cmp_neS (PySem.W.ite_neg (by simp) hR')
                                    · refine seq_to ⟨(((((σ.loc.set "k" (.int (k : Int))).set "row" (.str (mkS (pcn wd M T k)))).set "mark" (.str (mkS [q])))).set "whole" (.str (mkS Y))).set "row" (.str (mkS X)), σ.H⟩ (fun R' hR' => ?_) (hR _ ⟨(hS.set (by decide)).set (by decide), rfl, rfl, rfl⟩)
                                      refine get_W rfl ⟨1, rfl, _, rfl, cut_S (by rw [mkS_len, sizeLine_eq, hX, List.length_append]; (first | lia | omega)) (get_W e3 ⟨2, rfl, cut_S (by rw [mkS_len, sizeLine_eq, List.length_append]; (first | lia | omega)) ⟨by rw [sizeLine_eq]; simp, _, _, rfl, ?_⟩⟩)⟩
                                      rw [scut_mk, scut_mk, show cut (pre [q] ++ Y) (some 2) none = Y from (cut_lo _ 2).trans rfl, cut_dropLast, hX, dropLast_post, ← hX]
                                      exact hR'
                                rintro σ' ⟨q1, q2, q3, q4⟩
                                refine seq_to ⟨σ'.loc.set "whole" (.str (mkS (X ++ Y))), σ'.H⟩ (fun R hR => get_W q3 (get_W q4 (bin_addS (by rw [mkS_len, mkS_len, sizeLine_eq]; (first | lia | omega)) (by rw [mkS_append]; exact hR)))) (hfin _ (q1.set (by decide)) q2 (by rw [← hXY]; rfl))
                          case tq7 =>
                            repeat' (first | with_reducible exact ev_int _ _ _ | with_reducible exact ev_str _ _ _ | with_reducible exact ev_none _ _ | with_reducible exact ev_bool _ _ _ | (with_reducible refine' ev_name _ _ ?_ ?_) | (with_reducible refine' ev_binop ?_ ?_) | (with_reducible refine' ev_neg ?_) | (with_reducible refine' ev_cmp ?_ ?_ ?_) | (with_reducible refine' ev_ifexp ?_ ?_ ?_) | (with_reducible refine' ev_list ?_) | (with_reducible refine' ev_tuple ?_) | with_reducible exact es_nil | (with_reducible refine' es_cons ?_ ?_ ?_) | (with_reducible refine' ev_cut ?_ ?_ ?_) | (with_reducible refine' ev_idx ?_ ?_ ?_) | with_reducible exact pt_none | (with_reducible refine' pt_some ?_) | (with_reducible refine' bt_cmp ?_ ?_ ?_) | (with_reducible refine' bt_not ?_) | (with_reducible refine' bt_bool ?_) | with_reducible exact at_and_nil | with_reducible exact at_or_nil | (with_reducible refine' at_and_cons ?_ ?_) | (with_reducible refine' at_or_cons ?_ ?_) | with_reducible exact xs_nil | (with_reducible refine' xs_cons ?_ ?_) | (with_reducible refine' st_assign ?_ ?_ ?_) | (with_reducible refine' st_aug ?_ ?_ ?_) | (with_reducible refine' st_if ?_ ?_ ?_) | (with_reducible refine' st_append ?_ ?_ ?_ ?_ ?_ ?_) | (with_reducible refine' st_augidx ?_ ?_ ?_ ?_) | (with_reducible refine' st_ret ?_) | with_reducible exact st_ret0 | with_reducible exact st_cont | with_reducible exact st_pass | (with_reducible refine' st_while ?_ ?_) | (with_reducible refine' st_for ?_ (as_name ?_) ?_ ?_ ?_) | (with_reducible refine' ev_len (by assumption) ?_ ?_ ?_ ?_ ?_ ?_ ?_ ?_) | (with_reducible refine' ev_chr (by assumption) ?_ ?_ ?_ ?_ ?_ ?_ ?_ ?_) | (with_reducible refine' ev_range (by assumption) ?_ ?_ ?_ ?_ ?_ ?_ ?_ ?_) | (with_reducible refine' ev_abs (by assumption) ?_ ?_ ?_ ?_ ?_ ?_ ?_ ?_) | (with_reducible refine' ev_count _ ?_ ?_ ?_ ?_ ?_) | (with_reducible refine' ev_split _ ?_ ?_ ?_ ?_ ?_) | (with_reducible refine' ev_index _ ?_ ?_ ?_ ?_) | (with_reducible refine' ev_attr (C := 111) (by assumption) ?_ ?_ ?_ ?_ ?_ ?_) | (with_reducible refine' st_swap2 (x := "row") (y := "whole") ?_ ?_ ?_ ?_ ?_) | (with_reducible refine' ev_fn (x := Str.ofString "_law_read") (f := 127) (by assumption) (by assumption) ?_ ?_ ?_ ?_ ?_ ?_ ?_ ?_ ?_) | (with_reducible refine' st_extend ?_ ?_ ?_ ?_ ?_ ?_) | (with_reducible refine' ev_html (by assumption) ?_ ?_ ?_ ?_ ?_ ?_ ?_) | (with_reducible refine' st_split _ 380 (by assumption) ?_ ?_ ?_ ?_ ?_ ?_ ?_ ?_) | with_reducible exact ts_nil | (with_reducible refine' ts_one ?_) | ((with_reducible show nsIn _ _ _ = _); k_is) | ((with_reducible show plainGet _ _ _ = _); k_is) | ((with_reducible show hasDictIn _ _ = _); k_is) | ((with_reducible show findIn _ _ _ = _); k_is) | ((with_reducible show noGet _ _ = _); k_is) | ((with_reducible show Stores _ _); first | exact Or.inl rfl | exact Or.inr ⟨rfl, rfl⟩) | ((with_reducible show (_ == _) = false); decide) | ((with_reducible show behindInMarks _ _ = _); with_unfolding_all rfl) | ((with_reducible show _ ≤ _); decide) | ((with_reducible show _ = _); rfl) | ((with_reducible show ∀ _, _ = _); intro _; rfl) | ((with_reducible show ∀ _ _, _ = _); intro _ _; rfl) | ((with_reducible show ∀ _ _ _, _ = _); intro _ _ _; rfl) | (with_reducible refine' bt_val ?_ ?_))
          case sm =>
            intro σ Q hh
            refine hide fun Gh kh => ?_
            obtain ⟨way, size, column, number, tr, line, M, a, b, P, p6, hQ⟩ := hh
            have p1 := P.nsh
            have p2 := P.nnum
            have p3 := P.ncol
            have p4 := P.nscr
            have p5 := P.nmk
            have hHa := P.ha
            have hHb := P.hb
            have hL := scr_len size P.s1 line []
            have hLm : size * line.length ≤ 6 * 62 := Nat.mul_le_mul P.s6 P.l62
            have hSok := scr_okC size line [] P.ok (fun _ h => by cases h)
            have hm1 := P.m1
            have hm2 := P.m2
            have hl2 := P.l2
            have hl62 := P.l62
            have hs6 := P.s6
            have hml : size * line.length ≤ 6 * line.length := Nat.mul_le_mul_right _ hs6
            simp only [List.length_nil, Nat.zero_add] at hL
            change _ ≤ (scr size line).length ∧ (scr size line).length ≤ _ at hL
            change ∀ c ∈ scr size line, okC c at hSok
            generalize scr size line = S at hL hSok hHa p6
            obtain ⟨hcs, hc128⟩ := zip_mem S M hSok P.mok
            have hrl : (S.zip M).length = S.length := by rw [List.length_zip]; (first | lia | omega)
            obtain ⟨t1, t2, t3, t4⟩ := tok_ok (S.zip M) [] hcs (.inl rfl)
            have hvis : vis (tok [] (S.zip M)) = S.length := by rw [← cellsOf_len [], t3, hrl]
            generalize hT : tok [] (S.zip M) = T at t1 t2 t3 t4 hvis
            obtain ⟨Mc, wd, hMc, hwd, hw1, hM1, hM2, hrows⟩ := rows11 T column P.c1 t2 tr S.length hvis (by (first | lia | omega)) (by (first | lia | omega))
            have hMle : Mc ≤ 372 := by
              rw [hMc]; split
              · exact Nat.le_trans (Nat.div_le_self _ _) (by (first | lia | omega))
              · (first | lia | omega)
            have hwd4 : wd ≤ 400 := by
              have := P.c12
              rw [hwd]; split <;> (first | lia | omega)
            refine kh ?_
            clear kh Gh
            refine seq_to ⟨σ.loc.set "marked" (.str (mkS (flat T))), σ.H⟩ (fun R hR => ?_) ?_
            · refine get_W p6 (get_W p5 ⟨S.map chP, M.map maP, ?_, lstOf_ref hHb, by rw [List.length_map]; (first | lia | omega), by rw [List.length_map, List.length_map]; (first | lia | omega), by rw [List.length_map]; (first | lia | omega), ?_⟩)
              · show (if (mkS S).cps.all (· < 128) = true then some (strSigns (mkS S)) else none) = _
                rw [if_pos, signs_chP]
                simp only [mkS, List.all_toArray, List.all_eq_true, decide_eq_true_eq]
                intro c hc
                rcases hSok c hc with h | h <;> (first | lia | omega)
              rw [zipP]
              rw [← hT] at hR
              exact ⟨rfl, hmk (S.zip M) _ _ hcs (by (first | lia | omega)) hR⟩
            refine seq_ex (fun σ₁ => ∃ t, a ≠ t ∧ b ≠ t ∧ σ₁ = ⟨(σ.loc.set "marked" (.str (mkS (flat T)))).set "told" (.ref t), σ.H.set t ⟨true, [keptP]⟩⟩) (fun R hR => ?_) ?_
            · refine ⟨by rw [sizeLine_eq]; simp, by rw [sizeLine_eq]; simp, listW_ref fun t ht => hR _ ⟨t, fun e => ?_, fun e => ?_, rfl⟩⟩
              · subst e; cases hHa.symm.trans ht
              · subst e; cases hHb.symm.trans ht
            rintro _ ⟨t, hta, htb, rfl⟩
            refine seq_to ⟨(σ.loc.set "marked" (.str (mkS (flat T)))).set "told" (.ref t), σ.H.set t ⟨true, keptP :: rowsOf number ((List.range (Mc + 1)).map (pcn wd Mc T))⟩⟩ (fun R hR => ?_) ?_
            · refine get_W p1 ⟨_, rfl, rfl, get_W rfl (get_W p2 (get_W rfl ?_))⟩
              refine ⟨_, t, _, number, tr, [], T, column, rfl, rfl, rfl, LH.set_self _ _ _, P.num.truth, .inl rfl, t1, t2, by (first | lia | omega), by (first | lia | omega), P.c1, by have := P.c12; (first | lia | omega), by simp; (first | lia | omega), rfl, ?_⟩
              rw [hrows, LH.set_set]
              exact hR
            have hH2 : ∀ l, (σ.H.set t l) a = some ⟨true, S.map chP⟩ := fun l => (LH.set_ne _ _ hta).trans hHa
            have hH3 : ∀ l, (σ.H.set t l) b = some ⟨true, M.map maP⟩ := fun l => (LH.set_ne _ _ htb).trans hHb
            refine seq_to _ (fun R hR => ⟨number, tr, column, a, S.map chP, P.num, P.c1, P.c12, by rw [List.length_map]; (first | lia | omega), by rw [List.length_map]; (first | lia | omega), p2, p3, p4, hH2 _, hR⟩) ?_
            rw [List.length_map, ← hMc]
            refine seq_to _ (fun R hR => ⟨Mc, column, a, S.map chP, by rw [List.length_map]; (first | lia | omega), rfl, p3, p4, hH2 _, hR⟩) ?_
            rw [List.length_map, ← hwd]
            refine seq_to _ (fun R hR => ⟨number, tr, t, _, Mc, P.num, by rw [List.length_map, List.length_range], by (first | lia | omega), p2, rfl, rfl, LH.set_self _ _ _, hR⟩) ?_
            refine seq_to ⟨((((((σ.loc.set "marked" (.str (mkS (flat T)))).set "told" (.ref t)).set "count" (.int ((Mc + 1 : Nat) : Int))).set "wide" (.int (wd : Int))).set "whole" (.str (mkS []))).set "cells" (.lst ((S.zip M).map cellP))), σ.H.set t ⟨true, keptP :: rowsOf number ((List.range (Mc + 1)).map (pcn wd Mc T))⟩⟩ (fun R hR => ?_) ?_
            · rw [ofSe]
              refine get_W p4 (get_W p5 ⟨S.map chP, M.map maP, lstOf_ref (hH2 _), lstOf_ref (hH3 _), by rw [List.length_map]; (first | lia | omega), by rw [List.length_map, List.length_map]; (first | lia | omega), by rw [List.length_map]; (first | lia | omega), ?_⟩)
              rw [zipP]
              exact ⟨by rw [sizeLine_eq]; simp, _, _, rfl, hR⟩
            refine seq_ex (fun σ' => σ'.loc "whole" = some (.str (mkS (flat T))) ∧ σ'.loc "marked" = some (.str (mkS (flat T)))) (fun R hR => ?_) (fun σ' h => seq_ret σ' (fun R hR => get_W h.1 (get_W h.2 (cmp_eqS hR))) (by rw [beq_self_eq_true]; exact hQ _))
            refine ⟨T, S.zip M, Mc, wd, t, rowsOf number ((List.range (Mc + 1)).map (pcn wd Mc T)), t1, t2, t3, by (first | lia | omega), by (first | lia | omega), hc128, by rw [hrl]; exact hM1, by rw [hrl]; exact hM2, by (first | lia | omega), hw1, hwd4, ?_, rfl, rfl, rfl, rfl, rfl, LH.set_self _ _ _, fun j hj => rows_get number _ Mc j hj, fun σ' hs hw => hR _ ⟨hw, hs.get (by decide) rfl⟩⟩
            rw [rowsOf_len, List.length_map, List.length_range]; (first | lia | omega)
        case pre2 =>
          exact ⟨way, size, column, number, tr, line, M, a, b, ⟨P.s1, P.s6, P.c1, P.c12, P.num, P.l2, P.l62, P.ok, P.mok, P.m1, P.m2, P.hab, P.ha, P.hb, P.nway, P.ncol, P.nnum, P.nline, P.nscr, P.nmk, P.nsh⟩, rfl, fun _ => rfl⟩
        case post2 =>
          intro fl p loc7 Z7 H7 s7 k7 vf hp
          subst hp
          cases vf with
          | ret v =>
            cases v
            obtain ⟨tb, htb6⟩ := hg6
            have htb7 : s7.heap.get? 55 = some (tabObj tb) := k7.frm 55 _ htb6 (N' _ (.head _)).2.1 (fun m hm => by cases hm) fun xs h => by
              obtain ⟨_, vs, n0, e, _⟩ := S6.obj 55 _ h
              rw [htb6] at e; cases e
            obtain ⟨m7, hm7, _⟩ := k7.sat.ns
            have keep7 := k7.sat.keep
            obtain ⟨hk7, tk7, rfl⟩ := Sh.trans k.sh (Sh.trans sh6 k7.sh)
            clear k7 sh6 k S6 htb6
            refine ⟨goodW_bool ⟨hm7, keep7, F'.above⟩ ?_ ?_ ?_ ?_, ⟨tb, htb7⟩, trivial⟩
            · assumption
            · intro cls; rfl
            · first | wrow_post | kc_post
            · rfl)
end Mine
end

theorem PySem.Challenge.cw_dm0063_11_holds : PySem.Challenge.rw_dm0063_11.Holds := by
  have h := Mine.law11
  rw [Mine.ownRow_eq] at h
  exact h
