import PyProof.Rows.All
import Wide.All
import OpenK.AllK
import Wide.FinOn
import PySem.Challenge.RW_in0241_01

set_option Elab.async false
set_option linter.all false

/-! H0 -/
section
/-! helpers that keep the terms small -/
namespace Mine
universe u v
theorem nope {α : Type u} {x : α} {G : Prop} (h : (none : Option α) = some x) : G := by cases h
theorem so2 {α : Type u} {β : Type v} {a c : α} {b d : β} (h : some (a, b) = some (c, d)) : a = c ∧ b = d := Prod.mk.inj (Option.some.inj h)
theorem and_i {a b : Bool} (h : (a && b) = true) : a = true ∧ b = true := Bool.and_eq_true_iff.mp h
theorem or3 {p q : Bool} (hp : p = false) (hq : q = false) : ¬ (p || (q || false)) = true := by rw [hp, hq]; exact Bool.false_ne_true
noncomputable def onO {α : Type u} {β : Type v} (f : α → Option β) : Option α → Option β
  | some a => f a
  | none => none
theorem onO_k {α : Type u} {β : Type v} {f : α → Option β} {o : Option α} {q : β} {G : Prop} (e : onO f o = some q) (k : ∀ a, o = some a → f a = some q → G) : G := by
  cases o with
  | none => exact nope e
  | some a => exact k a rfl e
section
variable {α : Type u} {l : List α}
theorem len_1 (h : l.length = 1) : ∃ a, l = [a] := by
  cases l with
  | nil => exact Nat.noConfusion h
  | cons a r => exact ⟨a, congrArg (List.cons a) (List.eq_nil_of_length_eq_zero (Nat.succ.inj h))⟩
theorem len_2 (h : l.length = 2) : ∃ a b, l = [a, b] := by
  cases l with
  | nil => exact Nat.noConfusion h
  | cons a r => exact let ⟨b, e⟩ := len_1 (Nat.succ.inj h); ⟨a, b, congrArg (List.cons a) e⟩
theorem len_3 (h : l.length = 3) : ∃ a b c, l = [a, b, c] := by
  cases l with
  | nil => exact Nat.noConfusion h
  | cons a r => exact let ⟨b, c, e⟩ := len_2 (Nat.succ.inj h); ⟨a, b, c, congrArg (List.cons a) e⟩
end
end Mine
end

/-! S0 -/
section
open PySem PySem.W PyProof.Rows

namespace Mine

/-- plain data -/
inductive D where
  | none
  | bool (b : Bool)
  | int (i : Int)
  | str (l : List Nat)
  | tup (l : List D)
  | list (l : List D)
  | obj (a : Addr)

/-- a slot: a name of the frame -/
inductive SV where
  | un
  | val (d : D)
  | own (l : List D)
  | iter (l : List D)
  | bound (y : Nat)
  | ptr (a : Addr)

mutual
noncomputable def Den (h : Heap) (X : Addr → Prop) : D → Value → Prop
  | .none, v => v = .none
  | .bool b, v => v = .bool b
  | .int i, v => ∃ t, v = .int i t
  | .str l, v => ∃ t, v = .str ⟨l.toArray⟩ t
  | .tup l, v => ∃ a vs, v = .ref a ∧ ¬ X a ∧ h.IsTuple a vs ∧ DenL h X l vs.toList
  | .list l, v => ∃ a vs, v = .ref a ∧ ¬ X a ∧ h.PlainList a vs ∧ DenL h X l vs.toList
  | .obj a, v => v = .ref a ∧ ¬ X a ∧ ∃ o, h.get? a = some o
noncomputable def DenL (h : Heap) (X : Addr → Prop) : List D → List Value → Prop
  | [], vs => vs = []
  | d :: ds, vs => ∃ v r, vs = v :: r ∧ Den h X d v ∧ DenL h X ds r
end

/-- the heap grows from h to h', what is not X stays, and stays not X' -/
noncomputable def Mono (h : Heap) (X : Addr → Prop) (h' : Heap) (X' : Addr → Prop) : Prop :=
  ∀ a o, h.get? a = some o → ¬ X a → h'.get? a = some o ∧ ¬ X' a

noncomputable abbrev Grow (h h' : Heap) : Prop := ∀ a o, h.get? a = some o → h'.get? a = some o

theorem Grow.refl (h : Heap) : Grow h h := fun _ _ e => e
theorem Grow.trans {h h' h'' : Heap} (a : Grow h h') (b : Grow h' h'') : Grow h h'' := fun _ _ e => b _ _ (a _ _ e)
theorem Grow.mono {h h' : Heap} {X} (g : Grow h h') : Mono h X h' X := fun _ _ e n => ⟨g _ _ e, n⟩
theorem Mono.trans {h h' h'' : Heap} {X X' X''} (a : Mono h X h' X') (b : Mono h' X' h'' X'') : Mono h X h'' X'' :=
  fun _ _ e n => have z := a _ _ e n; b _ _ z.1 z.2

mutual
theorem Den.mono {h h' : Heap} {X X' : Addr → Prop} (m : Mono h X h' X') : ∀ {d : D} {v : Value}, Den h X d v → Den h' X' d v
  | .none, _, x => by unfold Den at *; exact x
  | .bool b, _, x => by unfold Den at *; exact x
  | .int i, _, x => by unfold Den at *; exact x
  | .str l, _, x => by unfold Den at *; exact x
  | .tup l, _, x => by
    unfold Den at *
    obtain ⟨a, vs, e, n, ⟨o, ho, r⟩, q⟩ := x
    exact ⟨a, vs, e, (m a o ho n).2, ⟨o, (m a o ho n).1, r⟩, DenL.mono m q⟩
  | .list l, _, x => by
    unfold Den at *
    obtain ⟨a, vs, e, n, ⟨k, ho⟩, q⟩ := x
    exact ⟨a, vs, e, (m a _ ho n).2, ⟨k, (m a _ ho n).1⟩, DenL.mono m q⟩
  | .obj a, _, x => by
    unfold Den at *
    obtain ⟨e, n, o, ho⟩ := x
    exact ⟨e, (m a o ho n).2, o, (m a o ho n).1⟩
theorem DenL.mono {h h' : Heap} {X X' : Addr → Prop} (m : Mono h X h' X') : ∀ {ds : List D} {vs : List Value}, DenL h X ds vs → DenL h' X' ds vs
  | [], _, x => by unfold DenL at *; exact x
  | d :: ds, _, x => by
    unfold DenL at *
    obtain ⟨v, r, e, p, q⟩ := x
    exact ⟨v, r, e, Den.mono m p, DenL.mono m q⟩
end

theorem DenL.nil {h X} : DenL h X [] [] := by unfold DenL; rfl
theorem DenL.cons {h X d v ds r} (p : Den h X d v) (q : DenL h X ds r) : DenL h X (d :: ds) (v :: r) := by
  unfold DenL; exact ⟨v, r, rfl, p, q⟩
theorem DenL.nil_inv {h X vs} (x : DenL h X [] vs) : vs = [] := by unfold DenL at x; exact x
theorem DenL.cons_inv {h X d ds vs} (x : DenL h X (d :: ds) vs) : ∃ v r, vs = v :: r ∧ Den h X d v ∧ DenL h X ds r := by
  unfold DenL at x; exact x

theorem DenL.length {h X} : ∀ {ds vs}, DenL h X ds vs → vs.length = ds.length
  | [], vs, x => by rw [x.nil_inv]; rfl
  | d :: ds, vs, x => by
    obtain ⟨v, r, rfl, _, q⟩ := x.cons_inv
    simp [q.length]

theorem DenL.get {h X} : ∀ {ds vs} {i : Nat} {d}, DenL h X ds vs → ds[i]? = some d → ∃ v, vs[i]? = some v ∧ Den h X d v
  | [], vs, i, d, _, e => by simp at e
  | d' :: ds, vs, i, d, x, e => by
    obtain ⟨v, r, rfl, p, q⟩ := x.cons_inv
    cases i with
    | zero => simp at e; subst e; exact ⟨v, rfl, p⟩
    | succ i => simpa using q.get (by simpa using e)

theorem DenL.append {h X} : ∀ {ds vs es ws}, DenL h X ds vs → DenL h X es ws → DenL h X (ds ++ es) (vs ++ ws)
  | [], vs, es, ws, x, y => by rw [x.nil_inv]; exact y
  | d :: ds, vs, es, ws, x, y => by
    obtain ⟨v, r, rfl, p, q⟩ := x.cons_inv
    exact .cons p (q.append y)

theorem DenL.snoc {h X ds vs d v} (x : DenL h X ds vs) (p : Den h X d v) : DenL h X (ds ++ [d]) (vs ++ [v]) := x.append (.cons p .nil)

theorem DenL.drop {h X} : ∀ {ds vs} (k : Nat), DenL h X ds vs → DenL h X (ds.drop k) (vs.drop k)
  | ds, vs, 0, x => x
  | [], vs, k + 1, x => by rw [x.nil_inv]; exact .nil
  | d :: ds, vs, k + 1, x => by
    obtain ⟨v, r, rfl, p, q⟩ := x.cons_inv
    exact q.drop k
theorem DenL.take {h X} : ∀ {ds vs} (k : Nat), DenL h X ds vs → DenL h X (ds.take k) (vs.take k)
  | ds, vs, 0, x => by simp only [List.take_zero]; exact .nil
  | [], vs, k + 1, x => by rw [x.nil_inv]; exact .nil
  | d :: ds, vs, k + 1, x => by
    obtain ⟨v, r, rfl, p, q⟩ := x.cons_inv
    exact .cons p (q.take k)
theorem DenL.reverse {h X} : ∀ {ds vs}, DenL h X ds vs → DenL h X ds.reverse vs.reverse
  | [], vs, x => by rw [x.nil_inv]; exact .nil
  | d :: ds, vs, x => by
    obtain ⟨v, r, rfl, p, q⟩ := x.cons_inv
    simp only [List.reverse_cons]
    exact q.reverse.snoc p
theorem DenL.set {h X} : ∀ {ds vs} (k : Nat) {d v}, DenL h X ds vs → Den h X d v → DenL h X (ds.set k d) (vs.set k v)
  | [], vs, k, d, v, x, y => by rw [x.nil_inv]; exact .nil
  | d' :: ds, vs, 0, d, v, x, y => by
    obtain ⟨v', r, rfl, p, q⟩ := x.cons_inv
    exact .cons y q
  | d' :: ds, vs, k + 1, d, v, x, y => by
    obtain ⟨v', r, rfl, p, q⟩ := x.cons_inv
    exact .cons p (q.set k y)

/-- borrowed: a list of the frame's own may stand at the head -/
noncomputable def DenB (h : Heap) (X : Addr → Prop) : D → Value → Prop
  | .list l, v => ∃ a vs, v = .ref a ∧ h.IsList a vs ∧ DenL h X l vs.toList
  | d, v => Den h X d v

theorem Den.borrow {h X} : ∀ {d v}, Den h X d v → DenB h X d v
  | .none, _, x => x
  | .bool _, _, x => x
  | .int _, _, x => x
  | .str _, _, x => x
  | .tup _, _, x => x
  | .obj _, _, x => x
  | .list l, _, x => by
    unfold Den at x
    obtain ⟨a, vs, e, _, hl, r⟩ := x
    exact ⟨a, vs, e, hl.isList, r⟩

theorem DenB.grow {h h' X} (g : Grow h h') : ∀ {d v}, DenB h X d v → DenB h' X d v
  | .none, _, x => Den.mono g.mono x
  | .bool _, _, x => Den.mono g.mono x
  | .int _, _, x => Den.mono g.mono x
  | .str _, _, x => Den.mono g.mono x
  | .tup _, _, x => Den.mono g.mono x
  | .obj _, _, x => Den.mono g.mono x
  | .list l, _, x => by
    obtain ⟨a, vs, e, ⟨o, ho, r⟩, q⟩ := x
    exact ⟨a, vs, e, ⟨o, g _ _ ho, r⟩, q.mono g.mono⟩

theorem den_none {h X} : Den h X .none .none := by unfold Den; rfl
theorem den_bool {h X b} : Den h X (.bool b) (.bool b) := by unfold Den; rfl
theorem den_int {h X i t} : Den h X (.int i) (.int i t) := by unfold Den; exact ⟨t, rfl⟩
theorem den_str {h X l t} : Den h X (.str l) (.str ⟨l.toArray⟩ t) := by unfold Den; exact ⟨t, rfl⟩
theorem den_none_inv {h X v} (x : Den h X .none v) : v = .none := by unfold Den at x; exact x
theorem den_bool_inv {h X b v} (x : Den h X (.bool b) v) : v = .bool b := by unfold Den at x; exact x
theorem den_int_inv {h X i v} (x : Den h X (.int i) v) : ∃ t, v = .int i t := by unfold Den at x; exact x
theorem den_str_inv {h X l v} (x : Den h X (.str l) v) : ∃ t, v = .str ⟨l.toArray⟩ t := by unfold Den at x; exact x
theorem den_tup_inv {h X l v} (x : Den h X (.tup l) v) : ∃ a vs, v = .ref a ∧ ¬ X a ∧ h.IsTuple a vs ∧ DenL h X l vs.toList := by unfold Den at x; exact x
theorem den_list_inv {h X l v} (x : Den h X (.list l) v) : ∃ a vs, v = .ref a ∧ ¬ X a ∧ h.PlainList a vs ∧ DenL h X l vs.toList := by unfold Den at x; exact x
theorem den_obj_inv {h X a v} (x : Den h X (.obj a) v) : v = .ref a ∧ ¬ X a ∧ ∃ o, h.get? a = some o := by unfold Den at x; exact x

/-- the heap only grown, the clock of tokens not turned back -/
noncomputable def Kp (s s' : Shared) : Prop := Keeps s s' ∧ s.toks ≤ s'.toks

theorem keeps_refl (s : Shared) : Keeps s s := ⟨s.heap, s.toks, rfl, fun _ _ e => e⟩
theorem keeps_trans {s s' s'' : Shared} (a : Keeps s s') (b : Keeps s' s'') : Keeps s s'' := by
  obtain ⟨h, t, rfl, k⟩ := a
  obtain ⟨h', t', rfl, k'⟩ := b
  exact ⟨h', t', rfl, fun b o e => k' b o (k b o e)⟩
theorem keeps_grow {s s' : Shared} (a : Keeps s s') : Grow s.heap s'.heap := by
  obtain ⟨h, t, rfl, k⟩ := a
  exact k
theorem keeps_toks (s : Shared) (t : Nat) : Keeps s { s with toks := t } := ⟨s.heap, t, rfl, fun _ _ e => e⟩
theorem keeps_of {s : Shared} {h' : Heap} {t : Nat} (g : Grow s.heap h') : Keeps s { s with heap := h', toks := t } := ⟨h', t, rfl, g⟩
theorem keeps_of' {s : Shared} {h' : Heap} (g : Grow s.heap h') : Keeps s { s with heap := h' } := ⟨h', s.toks, rfl, g⟩
theorem grow_push (h : Heap) (o : Obj) : Grow h (h.push o) := fun _ _ e => Heap.get?_push_of_some o e
theorem kp_refl (s : Shared) : Kp s s := ⟨keeps_refl s, Nat.le_refl _⟩
theorem Kp.trans {s s' s'' : Shared} (a : Kp s s') (b : Kp s' s'') : Kp s s'' := ⟨keeps_trans a.1 b.1, Nat.le_trans a.2 b.2⟩
theorem Kp.grow {s s' : Shared} (a : Kp s s') : Grow s.heap s'.heap := keeps_grow a.1
theorem kp_toks (s : Shared) (n : Nat) : Kp s { s with toks := s.toks + n } := ⟨keeps_toks _ _, Nat.le_add_right _ _⟩
theorem kp_of' {s : Shared} {h' : Heap} (g : Grow s.heap h') : Kp s { s with heap := h' } := ⟨keeps_of' g, Nat.le_refl _⟩
theorem kp_push (s : Shared) (o : Obj) : Kp s { s with heap := s.heap.push o } := kp_of' (grow_push _ _)

/-- what a tree gives: a datum, the heap only grown -/
noncomputable def Gives (M : Model) (A : Around) (t : Sem Value) (X : Addr → Prop) (d : D) (s : Shared) : Prop :=
  ∀ (Q : Value → Shared → Prop) (E : Value → Shared → Prop), (∀ v s', Kp s s' → Den s'.heap X d v → Q v s') → wpAny M A t Q E s
noncomputable def GivesB (M : Model) (A : Around) (t : Sem Value) (X : Addr → Prop) (d : D) (s : Shared) : Prop :=
  ∀ (Q : Value → Shared → Prop) (E : Value → Shared → Prop), (∀ v s', Kp s s' → DenB s'.heap X d v → Q v s') → wpAny M A t Q E s
noncomputable def Tests (M : Model) (A : Around) (t : Sem Bool) (b : Bool) (s : Shared) : Prop :=
  ∀ (Q : Bool → Shared → Prop) (E : Value → Shared → Prop), (∀ s', Kp s s' → Q b s') → wpAny M A t Q E s

theorem Gives.borrow {M A t X d s} (g : Gives M A t X d s) : GivesB M A t X d s := fun Q E h => g Q E fun v s' k x => h v s' k x.borrow

theorem gives_of {M A t X d s} (g : ∀ (Q : Value → Shared → Prop) (E : Value → Shared → Prop), (∀ v s', Keeps s s' → Den s'.heap X d v → Q v s') → wpAny M A t Q E s) : Gives M A t X d s :=
  fun _ _ h => wpAny_with_toks (Nat.le_refl _) (g _ _ fun v s' k x ht => h v s' ⟨k, ht⟩ x)
theorem tests_of {M A t b s} (g : ∀ (Q : Bool → Shared → Prop) (E : Value → Shared → Prop), (∀ s', Keeps s s' → Q b s') → wpAny M A t Q E s) : Tests M A t b s :=
  fun _ _ h => wpAny_with_toks (Nat.le_refl _) (g _ _ fun s' k ht => h s' ⟨k, ht⟩)

end Mine
end

/-! S1 -/
section
open PySem PySem.W PyProof.Rows
set_option maxRecDepth 4000

namespace Mine

noncomputable def lim : Nat := 16777216
/-! by the kind of a datum -/
section
variable {α : Type}
noncomputable def atI (f : Int → Option α) : D → Option α
  | .int i => f i
  | _ => none
noncomputable def atB (f : Bool → Option α) : D → Option α
  | .bool i => f i
  | _ => none
noncomputable def atS (f : List Nat → Option α) : D → Option α
  | .str i => f i
  | _ => none
noncomputable def atL (f : List D → Option α) : D → Option α
  | .list i => f i
  | _ => none
noncomputable def atT (f : List D → Option α) : D → Option α
  | .tup i => f i
  | _ => none
variable {G : Prop} {a b : D} {c : α}
theorem atI_k {f : Int → Option α} (e : atI f a = some c) (k : ∀ x, a = .int x → f x = some c → G) : G := by
  cases a with
  | int x => exact k x rfl e
  | _ => exact nope e
theorem atB_k {f : Bool → Option α} (e : atB f a = some c) (k : ∀ x, a = .bool x → f x = some c → G) : G := by
  cases a with
  | bool x => exact k x rfl e
  | _ => exact nope e
theorem atS_k {f : List Nat → Option α} (e : atS f a = some c) (k : ∀ x, a = .str x → f x = some c → G) : G := by
  cases a with
  | str x => exact k x rfl e
  | _ => exact nope e
theorem atL_k {f : List D → Option α} (e : atL f a = some c) (k : ∀ x, a = .list x → f x = some c → G) : G := by
  cases a with
  | list x => exact k x rfl e
  | _ => exact nope e
theorem atT_k {f : List D → Option α} (e : atT f a = some c) (k : ∀ x, a = .tup x → f x = some c → G) : G := by
  cases a with
  | tup x => exact k x rfl e
  | _ => exact nope e
noncomputable def i2 (a b : D) (k : Int → Int → Option α) : Option α := atI (fun x => atI (fun y => k x y) b) a
noncomputable def s2 (a b : D) (k : List Nat → List Nat → Option α) : Option α := atS (fun x => atS (fun y => k x y) b) a
noncomputable def l2 (a b : D) (k : List D → List D → Option α) : Option α := atL (fun x => atL (fun y => k x y) b) a
theorem i2_k {f : Int → Int → Option α} (e : i2 a b f = some c) (k : ∀ x y, a = .int x → b = .int y → f x y = some c → G) : G := atI_k e fun x h1 e => atI_k e fun y h2 e => k x y h1 h2 e
theorem s2_k {f : List Nat → List Nat → Option α} (e : s2 a b f = some c) (k : ∀ x y, a = .str x → b = .str y → f x y = some c → G) : G := atS_k e fun x h1 e => atS_k e fun y h2 e => k x y h1 h2 e
theorem l2_k {f : List D → List D → Option α} (e : l2 a b f = some c) (k : ∀ x y, a = .list x → b = .list y → f x y = some c → G) : G := atL_k e fun x h1 e => atL_k e fun y h2 e => k x y h1 h2 e
noncomputable def orr : Option α → Option α → Option α
  | some x, _ => some x
  | none, y => y
theorem orr_k {x y : Option α} (e : orr x y = some c) (h1 : x = some c → G) (h2 : y = some c → G) : G := by
  cases x with
  | none => exact h2 e
  | some z => exact h1 e
theorem if_k {p : Prop} [Decidable p] {a : Option α} {b : α} (e : (if p then a else none) = some b) (k : p → a = some b → G) : G :=
  if h : p then k h ((if_pos h).symm.trans e) else nope ((if_neg h).symm.trans e)
end

theorem lim_eq : lim = sizeLine := by rw [sizeLine_eq]; rfl

/-- equality of plain things; lists of them -/
noncomputable def eqS (x y : D) : Option Bool := match x with
  | .none => (match y with
    | .none => some true
    | .bool _ => some false
    | .int _ => some false
    | .str _ => some false
    | _ => none)
  | .bool a => (match y with
    | .none => some false
    | .bool b => some (a == b)
    | _ => none)
  | .int a => (match y with
    | .none => some false
    | .int b => some (a == b)
    | _ => none)
  | .str a => (match y with
    | .none => some false
    | .str b => some (a == b)
    | _ => none)
  | _ => none
@[elab_as_elim] theorem eqS_k {M : D → D → Bool → Prop} {x y : D} {b : Bool} (e : eqS x y = some b) (h1 : M .none .none true) (h2 : ∀ b, M .none (.bool b) false) (h3 : ∀ b, M .none (.int b) false) (h4 : ∀ b, M .none (.str b) false)
    (h5 : ∀ b, M (.bool b) .none false) (h6 : ∀ b, M (.int b) .none false) (h7 : ∀ b, M (.str b) .none false) (h8 : ∀ a b, M (.bool a) (.bool b) (a == b)) (h9 : ∀ a b, M (.int a) (.int b) (a == b)) (h10 : ∀ a b, M (.str a) (.str b) (a == b)) : M x y b := by
  cases x with
  | none => cases y with
    | none => exact Option.some.inj e ▸ h1
    | bool b => exact Option.some.inj e ▸ h2 b
    | int b => exact Option.some.inj e ▸ h3 b
    | str b => exact Option.some.inj e ▸ h4 b
    | _ => exact nope e
  | bool a => cases y with
    | none => exact Option.some.inj e ▸ h5 a
    | bool b => exact Option.some.inj e ▸ h8 a b
    | _ => exact nope e
  | int a => cases y with
    | none => exact Option.some.inj e ▸ h6 a
    | int b => exact Option.some.inj e ▸ h9 a b
    | _ => exact nope e
  | str a => cases y with
    | none => exact Option.some.inj e ▸ h7 a
    | str b => exact Option.some.inj e ▸ h10 a b
    | _ => exact nope e
  | _ => exact nope e

noncomputable def andO (f : Bool → Bool) : Option Bool → Option Bool
  | some y => some (f y)
  | none => none
theorem andO_k {G : Prop} {f : Bool → Bool} {o : Option Bool} {r : Bool} (e : andO f o = some r) (k : ∀ y, o = some y → f y = r → G) : G := by
  cases o with
  | none => exact nope e
  | some y => exact k y rfl (Option.some.inj e)
noncomputable def eqL : List D → List D → Option Bool
  | [], l => (match l with
    | [] => some true
    | _ => some false)
  | a :: r, l => (match l with
    | b :: q => onO (fun x => andO (fun y => x && y) (eqL r q)) (eqS a b)
    | [] => some false)

noncomputable def eqD (x y : D) : Option Bool := match x with
  | .tup _ => (match y with
    | .str _ => some false
    | _ => none)
  | .list a => atL (fun b => if a.length = b.length then eqL a b else some false) y
  | x => eqS x y

noncomputable def anyS (x : D) : List D → Option Bool
  | [] => some false
  | y :: r => onO (fun b => andO (fun c => b || c) (anyS x r)) (eqS y x)

noncomputable def binD (op : Operator) (a b : D) : Option D := match op with
  | .Add => orr (i2 a b fun a b => some (.int (a + b))) (orr (s2 a b fun a b => if a.length + b.length ≤ lim then some (.str (a ++ b)) else none) (l2 a b fun a b => if a.length + b.length ≤ lim then some (.list (a ++ b)) else none))
  | .Sub => i2 a b fun a b => some (.int (a - b))
  | .Mult => i2 a b fun a b => if -10000 < b ∧ b < 10000 then some (.int (a * b)) else none
  | .Mod => i2 a b fun a b => if b ≠ 0 then some (.int (a.fmod b)) else none
  | .FloorDiv => i2 a b fun a b => if 0 < b ∧ b < 18446744073709551616 then some (.int (a.fdiv b)) else none
  | .Pow => i2 a b fun a b => if a = 64 ∧ 0 ≤ b ∧ b < 1000 then some (.int (a ^ b.toNat)) else none
  | .BitAnd => i2 a b fun a b => some (.int (Builtin.bitAnd a b))
  | .BitOr => i2 a b fun a b => some (.int (Builtin.bitOr a b))
  | .LShift => i2 a b fun a b => if 0 ≤ b ∧ b < 1000 ∧ -18446744073709551616 < a ∧ a < 18446744073709551616 then some (.int (a * 2 ^ b.toNat)) else none
  | _ => none

noncomputable def inStr (y x : List Nat) : Bool := !(Builtin.Str.occurrences ⟨x.toArray⟩ ⟨y.toArray⟩ 0 x.length 1).isEmpty

noncomputable def isD (x y : D) : Option Bool := match y with
  | .none => (match x with
    | .none => some true
    | .bool _ => some false
    | .int _ => some false
    | .str _ => some false
    | .tup _ => some false
    | _ => none)
  | .obj b => (match x with
    | .str _ => some false
    | .obj a => if a = b then some true else none
    | _ => none)
  | _ => none

noncomputable def notO : Option Bool → Option D
  | some b => some (.bool (!b))
  | none => none
noncomputable def yesO : Option Bool → Option D
  | some b => some (.bool b)
  | none => none

noncomputable def ltL (a b : List Nat) : Bool := decide (a < b)

noncomputable def cmpD (op : CmpOp) (a b : D) : Option D := match op with
  | .Eq => yesO (eqD a b)
  | .NotEq => orr (atB (fun x => atB (fun y => some (.bool (x != y))) b) a) (orr (i2 a b fun a b => some (.bool (a != b))) (orr (s2 a b fun a b => some (.bool (a != b))) (l2 a b fun a b => if a.length = b.length then notO (eqL a b) else some (.bool true))))
  | .Lt => i2 a b fun a b => some (.bool (decide (a < b)))
  | .LtE => orr (i2 a b fun a b => some (.bool (decide (a ≤ b)))) (s2 a b fun a b => some (.bool (!(ltL b a))))
  | .Gt => orr (i2 a b fun a b => some (.bool (decide (b < a)))) (s2 a b fun a b => some (.bool (ltL b a)))
  | .GtE => i2 a b fun a b => some (.bool (decide (b ≤ a)))
  | .Is => yesO (isD a b)
  | .IsNot => notO (isD a b)
  | .In => orr (s2 a b fun y x => some (.bool (inStr y x))) (orr (atT (fun l => yesO (anyS a l)) b) (atL (fun l => yesO (anyS a l)) b))
  | .NotIn => s2 a b fun y x => some (.bool (!(inStr y x)))
theorem yes_k {G : Prop} {o : Option Bool} {d : D} (e : yesO o = some d) (k : ∀ r, o = some r → d = .bool r → G) : G := by
  cases o with
  | none => exact nope e
  | some r => exact k r rfl (Option.some.inj e).symm
theorem not_k' {G : Prop} {o : Option Bool} {d : D} (e : notO o = some d) (k : ∀ r, o = some r → d = .bool (!r) → G) : G := by
  cases o with
  | none => exact nope e
  | some r => exact k r rfl (Option.some.inj e).symm

section
variable {prog : Program} {w : World} {A : Around} {s : Shared} {X : Addr → Prop}
open SeqAt

theorem str_beq_list (l l' : List Nat) : ((⟨l.toArray⟩ : Str) == (⟨l'.toArray⟩ : Str)) = (l == l') := by
  rw [← SeqAt.str_beq]

theorem eqAt_of {x y : D} {v u : Value} {b : Bool} {h : Heap} {X X' : Addr → Prop} (dx : Den h X x v) (dy : Den h X' y u) (e : eqS x y = some b) : EqAt A s v u b := by
  revert dx dy
  refine eqS_k e ?_ ?_ ?_ ?_ ?_ ?_ ?_ ?_ ?_ ?_
  · intro dx dy; rw [den_none_inv dx, den_none_inv dy]; exact EqAt.same _
  · intro b dx dy; rw [den_none_inv dx, den_bool_inv dy]; exact EqAt.none_bool _
  · intro b dx dy; obtain ⟨t, rfl⟩ := den_int_inv dy; rw [den_none_inv dx]; exact EqAt.none_int _ _
  · intro b dx dy; obtain ⟨t, rfl⟩ := den_str_inv dy; rw [den_none_inv dx]; exact EqAt.none_str _ _
  · intro b dx dy; rw [den_bool_inv dx, den_none_inv dy]; exact EqAt.bool_none _
  · intro b dx dy; obtain ⟨t, rfl⟩ := den_int_inv dx; rw [den_none_inv dy]; exact EqAt.int_none _ _
  · intro b dx dy; obtain ⟨t, rfl⟩ := den_str_inv dx; rw [den_none_inv dy]; exact EqAt.str_none _ _
  · intro a b dx dy; rw [den_bool_inv dx, den_bool_inv dy]; exact EqAt.bool_bool _ _
  · intro a b dx dy; obtain ⟨t, rfl⟩ := den_int_inv dx; obtain ⟨t, rfl⟩ := den_int_inv dy; exact EqAt.int_int _ _ _ _
  · intro a b dx dy; obtain ⟨t, rfl⟩ := den_str_inv dx; obtain ⟨u, rfl⟩ := den_str_inv dy; rw [← str_beq_list]; exact EqAt.str_str _ _ _ _

theorem rcAt_of {x y : D} {v u : Value} {b : Bool} {h : Heap} {X X' : Addr → Prop} (dx : Den h X x v) (dy : Den h X' y u) (e : eqS x y = some b) : RcAt A s v u b := by
  revert dx dy
  refine eqS_k e ?_ ?_ ?_ ?_ ?_ ?_ ?_ ?_ ?_ ?_
  · intro dx dy; rw [den_none_inv dx, den_none_inv dy]; exact RcAt.none_none
  · intro b dx dy; rw [den_none_inv dx, den_bool_inv dy]; exact RcAt.none_bool _
  · intro b dx dy; obtain ⟨t, rfl⟩ := den_int_inv dy; rw [den_none_inv dx]; exact RcAt.none_int _ _
  · intro b dx dy; obtain ⟨t, rfl⟩ := den_str_inv dy; rw [den_none_inv dx]; exact RcAt.none_str _ _
  · intro b dx dy; rw [den_bool_inv dx, den_none_inv dy]; exact RcAt.bool_none _
  · intro b dx dy; obtain ⟨t, rfl⟩ := den_int_inv dx; rw [den_none_inv dy]; exact RcAt.int_none _ _
  · intro b dx dy; obtain ⟨t, rfl⟩ := den_str_inv dx; rw [den_none_inv dy]; exact RcAt.str_none _ _
  · intro a b dx dy; rw [den_bool_inv dx, den_bool_inv dy]; exact RcAt.bool_bool _ _
  · intro a b dx dy; obtain ⟨t, rfl⟩ := den_int_inv dx; obtain ⟨t, rfl⟩ := den_int_inv dy; exact RcAt.int_int _ _ _ _
  · intro a b dx dy; obtain ⟨t, rfl⟩ := den_str_inv dx; obtain ⟨u, rfl⟩ := den_str_inv dy; rw [← str_beq_list]; exact RcAt.str_str _ _ _ _

noncomputable def valEq : Value → Value → Bool
  | .none, v => (match v with
    | .none => true
    | _ => false)
  | .bool a, v => (match v with
    | .bool b => a == b
    | _ => false)
  | .int a _, v => (match v with
    | .int b _ => a == b
    | _ => false)
  | .str a _, v => (match v with
    | .str b _ => a == b
    | _ => false)
  | _, _ => false

theorem valEq_of {x y : D} {v u : Value} {b : Bool} {h : Heap} {X X' : Addr → Prop} (dx : Den h X x v) (dy : Den h X' y u) (e : eqS x y = some b) : valEq v u = b := by
  revert dx dy
  refine eqS_k e ?_ ?_ ?_ ?_ ?_ ?_ ?_ ?_ ?_ ?_
  · intro dx dy; rw [den_none_inv dx, den_none_inv dy]; rfl
  · intro b dx dy; rw [den_none_inv dx, den_bool_inv dy]; rfl
  · intro b dx dy; obtain ⟨t, rfl⟩ := den_int_inv dy; rw [den_none_inv dx]; rfl
  · intro b dx dy; obtain ⟨t, rfl⟩ := den_str_inv dy; rw [den_none_inv dx]; rfl
  · intro b dx dy; rw [den_bool_inv dx, den_none_inv dy]; rfl
  · intro b dx dy; obtain ⟨t, rfl⟩ := den_int_inv dx; rw [den_none_inv dy]; rfl
  · intro b dx dy; obtain ⟨t, rfl⟩ := den_str_inv dx; rw [den_none_inv dy]; rfl
  · intro a b dx dy; rw [den_bool_inv dx, den_bool_inv dy]; rfl
  · intro a b dx dy; obtain ⟨t, rfl⟩ := den_int_inv dx; obtain ⟨t, rfl⟩ := den_int_inv dy; rfl
  · intro a b dx dy; obtain ⟨t, rfl⟩ := den_str_inv dx; obtain ⟨u, rfl⟩ := den_str_inv dy; exact str_beq_list _ _

theorem anyS_sound {x : D} {u : Value} {h : Heap} {X X' : Addr → Prop} (dx : Den h X' x u) : ∀ {ds : List D} {vs : List Value} {r : Bool}, DenL h X ds vs → anyS x ds = some r →
    vs.any (fun y => valEq y u) = r ∧ ∀ y ∈ vs, ∀ A s, EqAt A s y u (valEq y u)
  | [], vs, r, q, e => by
    rw [q.nil_inv]
    exact ⟨Option.some.inj e, fun y hy => nomatch hy⟩
  | d :: ds, vs, r, q, e => by
    obtain ⟨v, t, rfl, p, q⟩ := q.cons_inv
    refine onO_k e fun b e1 e => andO_k e fun c e2 e => ?_
    have z := anyS_sound dx q e2
    have y1 := valEq_of p dx e1
    refine ⟨by rw [List.any_cons, z.1, y1, e], fun y hy A s => ?_⟩
    cases hy with
    | head => rw [y1]; exact eqAt_of p dx e1
    | tail _ hy => exact z.2 y hy A s

theorem eqL_sound {h : Heap} {X X' : Addr → Prop} : ∀ {ds es : List D} {vs us : List Value} {r : Bool}, DenL h X ds vs → DenL h X' es us → ds.length = es.length → eqL ds es = some r →
    ∃ e : Nat → Bool, (List.range vs.length).all e = r ∧ ∀ j v u, vs[j]? = some v → us[j]? = some u → ∀ A s, EqAt A s v u (e j)
  | [], es, vs, us, r, p, q, hl, e => by
    cases es with
    | cons => exact Nat.noConfusion hl
    | nil => rw [p.nil_inv]; exact ⟨fun _ => true, Option.some.inj e, fun j v u h => nope h⟩
  | d :: ds, es, vs, us, r, p, q, hl, e => by
    cases es with
    | nil => exact Nat.noConfusion hl
    | cons d' es =>
      obtain ⟨v, t, rfl, p1, p2⟩ := p.cons_inv
      obtain ⟨u, t', rfl, q1, q2⟩ := q.cons_inv
      refine onO_k e fun b e1 e => andO_k e fun c e2 e => ?_
      obtain ⟨f, z1, z2⟩ := eqL_sound p2 q2 (Nat.succ.inj hl) e2
      refine ⟨fun j => Nat.rec b (fun j _ => f j) j, ?_, ?_⟩
      · rw [List.length_cons, List.range_succ_eq_map, List.all_cons, List.all_map, ← e, ← z1]
        rfl
      · intro j v' u' hv hu A s
        cases j with
        | zero => exact Option.some.inj hv ▸ Option.some.inj hu ▸ eqAt_of p1 q1 e1
        | succ j => exact z2 j v' u' hv hu A s

section
variable {a b : Addr} {ds es : List D} {vs us : Array Value} {r : Bool} (hu : A.units < cLine) (ha : s.heap.IsList a vs) (hb : s.heap.IsList b us) (p : DenL s.heap X ds vs.toList) (q : DenL s.heap X es us.toList)
include hu ha hb p q
theorem list_rc (e : (if ds.length = es.length then eqL ds es else some false) = some r) : RcAt A s (.ref a) (.ref b) r := by
  have l1 : vs.size = ds.length := Array.length_toList.symm.trans p.length
  have l2 : us.size = es.length := Array.length_toList.symm.trans q.length
  by_cases hl : ds.length = es.length
  · obtain ⟨f, z1, z2⟩ := eqL_sound p q hl ((if_pos hl).symm.trans e)
    rw [← z1, Array.length_toList]
    exact RcAt.lists ha hb (by rw [l1, l2, hl]) hu fun j h1 h2 => z2 j _ _ (by simp [h1]) (by simp [h2]) _ _
  · rw [← Option.some.inj ((if_neg hl).symm.trans e)]
    exact RcAt.lists_lengths ha hb (by simpa [l1, l2] using hl) hu

theorem list_rcNe (e : (if ds.length = es.length then eqL ds es else some false) = some r) : RcNeAt A s (.ref a) (.ref b) (!r) := by
  have l1 : vs.size = ds.length := Array.length_toList.symm.trans p.length
  have l2 : us.size = es.length := Array.length_toList.symm.trans q.length
  by_cases hl : ds.length = es.length
  · obtain ⟨f, z1, z2⟩ := eqL_sound p q hl ((if_pos hl).symm.trans e)
    rw [← z1, Array.length_toList]
    exact RcNeAt.lists ha hb (by rw [l1, l2, hl]) hu fun j h1 h2 => z2 j _ _ (by simp [h1]) (by simp [h2]) _ _
  · rw [← Option.some.inj ((if_neg hl).symm.trans e)]
    exact RcNeAt.lists_lengths ha hb (by simpa [l1, l2] using hl) hu
end

theorem denB_none {h X v} (x : DenB h X .none v) : v = .none := den_none_inv (h := h) (X := X) x
theorem denB_bool {h X b v} (x : DenB h X (.bool b) v) : v = .bool b := den_bool_inv (h := h) (X := X) x
theorem denB_int {h X i v} (x : DenB h X (.int i) v) : ∃ t, v = .int i t := den_int_inv (h := h) (X := X) x
theorem denB_tup {h X l v} (x : DenB h X (.tup l) v) : ∃ a vs, v = .ref a ∧ ¬ X a ∧ h.IsTuple a vs ∧ DenL h X l vs.toList := den_tup_inv x
theorem denB_obj {h X a v} (x : DenB h X (.obj a) v) : v = .ref a ∧ ¬ X a ∧ ∃ o, h.get? a = some o := den_obj_inv x
theorem denB_str {h X l v} (x : DenB h X (.str l) v) : ∃ t, v = .str ⟨l.toArray⟩ t := den_str_inv (h := h) (X := X) x
theorem denB_list {h X l v} (x : DenB h X (.list l) v) : ∃ a vs, v = .ref a ∧ h.IsList a vs ∧ DenL h X l vs.toList := x

theorem plain_of {a : D} {v : Value} (h : DenB s.heap X a v) (hn : ∀ l, a ≠ .list l) : Den s.heap X a v := by
  cases a with
  | list l => exact absurd rfl (hn l)
  | _ => exact h
theorem eqS_plain {x y : D} {b : Bool} (e : eqS x y = some b) : ∀ l, y ≠ .list l := by
  refine eqS_k e ?_ ?_ ?_ ?_ ?_ ?_ ?_ ?_ ?_ ?_ <;> intros <;> exact fun h => D.noConfusion h

theorem eqD_sound {a b : D} {v u : Value} {r : Bool} (hu : A.units < cLine) (da : DenB s.heap X a v) (db : DenB s.heap X b u) (e : eqD a b = some r) : RcAt A s v u r := by
  cases a with
  | list l =>
    refine atL_k e fun l' hb e => ?_
    obtain ⟨x, vs, rfl, hx, p⟩ := denB_list da
    obtain ⟨y, us, rfl, hy, q⟩ := denB_list (hb ▸ db)
    exact list_rc hu hx hy p q e
  | tup l =>
    cases b with
    | str l' =>
      obtain ⟨x, vs, rfl, _, hx, _⟩ := denB_tup da
      obtain ⟨t, rfl⟩ := denB_str db
      exact Option.some.inj e ▸ RcAt.tuple_str _ _ hx hu
    | _ => exact nope e
  | obj _ => exact nope e
  | none => exact rcAt_of (x := .none) (X := X) da (plain_of db (eqS_plain (x := .none) e)) e
  | bool c => exact rcAt_of (x := .bool c) (X := X) da (plain_of db (eqS_plain (x := .bool c) e)) e
  | int c => exact rcAt_of (x := .int c) (X := X) da (plain_of db (eqS_plain (x := .int c) e)) e
  | str c => exact rcAt_of (x := .str c) (X := X) da (plain_of db (eqS_plain (x := .str c) e)) e

theorem is_ok {v u : Value} {r : Bool} (h1 : ∀ {Q : Value → Shared → Prop} {E}, Q (.bool r) s → wpAny (model prog w) A (compareOp .Is v u) Q E s) (h2 : ∀ {Q : Value → Shared → Prop} {E}, Q (.bool (!r)) s → wpAny (model prog w) A (compareOp .IsNot v u) Q E s) :
    (∀ Q E, Q (.bool r) s → wpAny (model prog w) A (compareOp .Is v u) Q E s) ∧ (∀ Q E, Q (.bool (!r)) s → wpAny (model prog w) A (compareOp .IsNot v u) Q E s) := ⟨fun _ _ => h1, fun _ _ => h2⟩
theorem isD_sound {a b : D} {v u : Value} {r : Bool} (da : DenB s.heap X a v) (db : DenB s.heap X b u) (e : isD a b = some r) :
    (∀ Q E, Q (.bool r) s → wpAny (model prog w) A (compareOp .Is v u) Q E s) ∧ (∀ Q E, Q (.bool (!r)) s → wpAny (model prog w) A (compareOp .IsNot v u) Q E s) := by
  cases b with
  | none =>
    rw [denB_none db]
    cases a with
    | none => rw [denB_none da, ← Option.some.inj e]; exact is_ok (wpAny_is_self rfl) (wpAny_isNot_self rfl)
    | bool => rw [denB_bool da, ← Option.some.inj e]; exact is_ok (wpAny_is_other rfl fun h => nomatch h) (wpAny_isNot_other rfl fun h => nomatch h)
    | int => obtain ⟨t, rfl⟩ := denB_int da; rw [← Option.some.inj e]; exact is_ok (wpAny_is_other rfl fun h => nomatch h) (wpAny_isNot_other rfl fun h => nomatch h)
    | str => obtain ⟨t, rfl⟩ := denB_str da; rw [← Option.some.inj e]; exact is_ok (wpAny_is_other rfl fun h => nomatch h) (wpAny_isNot_other rfl fun h => nomatch h)
    | tup => obtain ⟨x, vs, rfl, _⟩ := denB_tup da; rw [← Option.some.inj e]; exact is_ok (wpAny_is_other rfl fun h => nomatch h) (wpAny_isNot_other rfl fun h => nomatch h)
    | _ => exact nope e
  | obj y =>
    obtain ⟨rfl, _⟩ := denB_obj db
    cases a with
    | str => obtain ⟨t, rfl⟩ := denB_str da; rw [← Option.some.inj e]; exact is_ok (wpAny_is_other rfl fun h => nomatch h) (wpAny_isNot_other rfl fun h => nomatch h)
    | obj x =>
      obtain ⟨rfl, _⟩ := denB_obj da
      exact if_k e fun hxy e => hxy ▸ Option.some.inj e ▸ is_ok wpAny_is_ref_self wpAny_isNot_ref_self
    | _ => exact nope e
  | _ => exact nope e

theorem str_bne_list (l l' : List Nat) : ((⟨l.toArray⟩ : Str) != (⟨l'.toArray⟩ : Str)) = (l != l') := by
  show (!_) = (!_)
  rw [str_beq_list]

theorem cmp_sound {op : CmpOp} {a b d : D} {v u : Value} (hu : A.units < cLine) (da : DenB s.heap X a v) (db : DenB s.heap X b u) (e : cmpD op a b = some d) : Gives (model prog w) A (compareOp op v u) X d s := by
  intro Q E h
  have fin : ∀ r, d = .bool r → Q (.bool r) s := fun r hr => h _ s (kp_refl s) (hr ▸ den_bool)
  have fin' : ∀ {r}, some (D.bool r) = some d → Q (.bool r) s := fun hr => fin _ (Option.some.inj hr).symm
  have onI2 : ∀ {f : Int → Int → Option D}, i2 a b f = some d → (∀ x y t t', f x y = some d → wpAny (model prog w) A (compareOp op (.int x t) (.int y t')) Q E s) → wpAny (model prog w) A (compareOp op v u) Q E s := fun e k => i2_k e fun x y ha hb e => by
    obtain ⟨t, rfl⟩ := denB_int (ha ▸ da); obtain ⟨t', rfl⟩ := denB_int (hb ▸ db); exact k x y t t' e
  have onS2 : ∀ {f : List Nat → List Nat → Option D}, s2 a b f = some d → (∀ (x y : List Nat) t t', f x y = some d → wpAny (model prog w) A (compareOp op (.str ⟨x.toArray⟩ t) (.str ⟨y.toArray⟩ t')) Q E s) → wpAny (model prog w) A (compareOp op v u) Q E s := fun e k => s2_k e fun x y ha hb e => by
    obtain ⟨t, rfl⟩ := denB_str (ha ▸ da); obtain ⟨t', rfl⟩ := denB_str (hb ▸ db); exact k x y t t' e
  cases op with
  | Eq => exact yes_k e fun r e1 e2 => eqD_sound hu da db e1 prog w E Q (fin r e2)
  | NotEq =>
    refine orr_k e (fun e => atB_k e fun x ha e => atB_k e fun y hb e => ?_) fun e => orr_k e (fun e => onI2 e fun x y t t' e => ne_int (fin' e)) fun e => orr_k e (fun e => onS2 e fun x y t t' e => ne_str (by rw [str_bne_list]; exact fin' e)) fun e => l2_k e fun l1 l2 ha hb e => ?_
    · rw [denB_bool (ha ▸ da : DenB s.heap X (.bool x) v), denB_bool (hb ▸ db : DenB s.heap X (.bool y) u)]; exact ne_bool (fin' e)
    · obtain ⟨x, vs, rfl, hx, p⟩ := denB_list (ha ▸ da)
      obtain ⟨y, us, rfl, hy, q⟩ := denB_list (hb ▸ db)
      by_cases hl : l1.length = l2.length
      · exact not_k' ((if_pos hl).symm.trans e) fun r e1 e2 => list_rcNe (r := r) hu hx hy p q ((if_pos hl).trans e1) prog w E Q (fin _ e2)
      · exact list_rcNe (r := false) hu hx hy p q (if_neg hl) prog w E Q (fin' ((if_neg hl).symm.trans e))
  | Lt => exact onI2 e fun x y t t' e => lt_int (fin' e)
  | LtE => exact orr_k e (fun e => onI2 e fun x y t t' e => le_int (fin' e)) fun e => onS2 e fun x y t t' e => P.le_str (fin' e)
  | Gt => exact orr_k e (fun e => onI2 e fun x y t t' e => gt_int (fin' e)) fun e => onS2 e fun x y t t' e => P.gt_str (fin' e)
  | GtE => exact onI2 e fun x y t t' e => ge_int (fin' e)
  | Is => exact yes_k e fun r e1 e2 => (isD_sound da db e1).1 _ _ (fin _ e2)
  | IsNot => exact not_k' e fun r e1 e2 => (isD_sound da db e1).2 _ _ (fin _ e2)
  | In =>
    have mem : ∀ {l : List D} {us : Array Value} {r : Bool}, anyS a l = some r → DenL s.heap X l us.toList → ∃ f : Value → Bool, (∀ y ∈ us, ∀ A s, EqAt A s y v (f y)) ∧ us.any f = r := by
      intro l us r e1 q
      cases l with
      | nil =>
        have z : us = #[] := Array.toList_inj.mp q.nil_inv
        subst z
        exact ⟨fun _ => false, (fun y hy => nomatch hy), by rw [← Option.some.inj (show some false = some r from e1)]; simp⟩
      | cons c l =>
        have dx : Den s.heap X a v := plain_of da (onO_k e1 fun b e2 _ => eqS_plain e2)
        obtain ⟨z1, z2⟩ := anyS_sound dx q e1
        exact ⟨fun y => valEq y v, fun y hy => z2 y (by simpa using hy), by rw [← Array.any_toList, z1]⟩
    refine orr_k e (fun e => onS2 e fun x y t t' e => in_str (fin' e)) fun e => orr_k e (fun e => atT_k e fun l hb e => yes_k e fun r e1 e2 => ?_) fun e => atL_k e fun l hb e => yes_k e fun r e1 e2 => ?_
    · obtain ⟨y, us, rfl, _, hy, q⟩ := denB_tup (hb ▸ db)
      obtain ⟨f, z1, z2⟩ := mem e1 q
      exact in_tupleAt f hy (fun y hy => z1 y hy _ _) (by rw [z2]; exact fin _ e2)
    · obtain ⟨y, us, rfl, hy, q⟩ := denB_list (hb ▸ db)
      obtain ⟨f, z1, z2⟩ := mem e1 q
      exact in_listAt f hy (fun y hy => z1 y hy _ _) (by rw [z2]; exact fin _ e2)
  | NotIn => exact onS2 e fun x y t t' e => notIn_str (fin' e)

end
end Mine
end

/-! S2 -/
section
open PySem PySem.W PyProof.Rows
set_option maxRecDepth 4000

namespace Mine

noncomputable def chO : Option Nat → Option D
  | some c => some (.str [c])
  | none => none
noncomputable def ixS (l : List Nat) (i : Int) : Option D := if 0 ≤ i ∧ i < 4611686018427387904 then chO l[i.toNat]? else if i = -1 then chO l.getLast? else none
noncomputable def ixL (l : List D) (i : Int) : Option D := if 0 ≤ i ∧ i < 4611686018427387904 then l[i.toNat]? else if i = -1 then l.getLast? else none
noncomputable def ixT (l : List D) (i : Int) : Option D := if 0 ≤ i ∧ i < 4611686018427387904 then l[i.toNat]? else none
noncomputable def idxD (x i : D) : Option D := match x with
  | .str l => atI (ixS l) i
  | .list l => atI (ixL l) i
  | .tup l => atI (ixT l) i
  | _ => none

noncomputable def slcD (d : D) (lo hi : Option Int) : Option D := match d with
  | .str l => if 0 ≤ lo.getD 0 ∧ 0 ≤ hi.getD 0 ∧ l.length ≤ lim then some (.str ((l.take (hi.elim l.length Int.toNat)).drop (lo.getD 0).toNat)) else none
  | .list l => if l.length ≤ lim then some (.list ((l.drop (lo.elim 0 (clipAt l.length))).take (hi.elim l.length (clipAt l.length) - lo.elim 0 (clipAt l.length)))) else none
  | _ => none

noncomputable def revD (d : D) : Option D := atL (fun l => if l.length ≤ lim then some (.list l.reverse) else none) d

noncomputable def lenD : D → Option D
  | .str l => if l.length ≤ lim then some (.int l.length) else none
  | .list l => if l.length ≤ lim then some (.int l.length) else none
  | _ => none

noncomputable def truD : D → Option Bool
  | .bool b => some b
  | .int i => some (i != 0)
  | .str l => if l.length ≤ lim then some (!l.isEmpty) else none
  | .list l => if l.length ≤ lim then some (!l.isEmpty) else none
  | _ => none

noncomputable def chrD (d : D) : Option D := atI (fun i => if 0 ≤ i ∧ i ≤ 1114111 then some (.str [i.toNat]) else none) d

noncomputable def jn (sep : List Nat) : List (List Nat) → List Nat
  | [] => []
  | [x] => x
  | x :: r => x ++ sep ++ jn sep r

noncomputable def allStr : List D → Option (List (List Nat))
  | [] => some []
  | .str x :: r => (match allStr r with | some q => some (x :: q) | none => none)
  | _ :: _ => none

noncomputable def joinD (sep : List Nat) : D → Option D
  | .list l => (match allStr l with
    | some ls => if (ls.map List.length).sum + ls.length * sep.length ≤ lim then some (.str (jn sep ls)) else none
    | none => none)
  | _ => none

noncomputable def inpD (op : Operator) (a b : D) : Option D := match op with
  | .Add => orr (i2 a b fun a b => some (.int (a + b))) (s2 a b fun a b => if a.length + b.length ≤ lim then some (.str (a ++ b)) else none)
  | .LShift => i2 a b fun a b => if 0 ≤ b ∧ b < 1000 ∧ -18446744073709551616 < a ∧ a < 18446744073709551616 then some (.int (a * 2 ^ b.toNat)) else none
  | .BitOr => i2 a b fun a b => some (.int (Builtin.bitOr a b))
  | _ => none

theorem log2_small {b : Int} (h0 : 0 < b) (h1 : b < 18446744073709551616) : b.natAbs.log2 < 9000 := by
  have h : b.natAbs < 2 ^ 64 := by omega
  have : b.natAbs.log2 < 64 := (Nat.log2_lt (by omega)).mpr h
  omega

section
variable {prog : Program} {w : World} {A : Around} {s : Shared} {X : Addr → Prop}

theorem den_new_list {ds : List D} {vs : List Value} (q : DenL s.heap X ds vs) (hX : ¬ X s.heap.objs.size) :
    Den (s.heap.push { cls := .type "list", data := .seq vs.toArray }) X (.list ds) (.ref s.heap.objs.size) := by
  unfold Den
  exact ⟨_, vs.toArray, rfl, hX, ⟨_, Heap.get?_push_size _ rfl⟩, by simpa using q.mono (grow_push _ _).mono⟩
theorem den_new_tup {ds : List D} {vs : List Value} (q : DenL s.heap X ds vs) (hX : ¬ X s.heap.objs.size) :
    Den (s.heap.push { cls := .type "tuple", data := .seq vs.toArray }) X (.tup ds) (.ref s.heap.objs.size) := by
  unfold Den
  exact ⟨_, vs.toArray, rfl, hX, ⟨_, Heap.get?_push_size _ rfl, rfl, 0, rfl⟩, by simpa using q.mono (grow_push _ _).mono⟩

/-- what is excluded has been laid -/
noncomputable def Low (X : Addr → Prop) (h : Heap) : Prop := ∀ a, X a → a < h.objs.size
theorem Low.new {X h} (l : Low X h) : ¬ X h.objs.size := fun x => Nat.lt_irrefl _ (l _ x)
theorem size_le_of_keeps {h h' : Heap} {X : Addr → Prop} (l : Low X h) (g : h.objs.size ≤ h'.objs.size) : Low X h' := fun a x => Nat.lt_of_lt_of_le (l a x) g

theorem list_seq {h : Heap} {a : Addr} {vs : Array Value} (x : h.IsList a vs) : h.IsList a vs.toList.toArray := by simpa using x

theorem str_add (x y : List Nat) : (⟨x.toArray⟩ : Str) ++ ⟨y.toArray⟩ = ⟨(x ++ y).toArray⟩ := by
  show Str.append _ _ = _
  simp [Str.append]
theorem str_len (x : List Nat) : (⟨x.toArray⟩ : Str).length = x.length := by simp [Str.length]

theorem shl_ok {a b : Int} (h1 : b < 1000) (h2 : -18446744073709551616 < a) (h3 : a < 18446744073709551616) : (Builtin.Int.intBits a : Int) + b ≤ 2 ^ 27 := by
  have e64 : (2 : Int) ^ 64 = 18446744073709551616 := by decide
  have := intBits_le_64 (by rw [e64]; exact h2) (by rw [e64]; exact h3)
  have e27 : (2 : Int) ^ 27 = 134217728 := by decide
  omega
theorem bin_sound {op : Operator} {a b d : D} {v u : Value} (hX : ¬ X s.heap.objs.size) (da : DenB s.heap X a v) (db : DenB s.heap X b u) (e : binD op a b = some d) : Gives (model prog w) A (binaryOp op v u) X d s := by
  refine gives_of fun Q E h => ?_
  have z : ∀ {i t n}, some (D.int i) = some d → Q (.int i t) { s with toks := n } := fun hd => h _ _ (keeps_toks _ _) (Option.some.inj hd ▸ den_int)
  have nn : ∀ {f : Int → Int → Option D}, i2 a b f = some d → (∀ x y t t', f x y = some d → wpAny (model prog w) A (binaryOp op (.int x t) (.int y t')) Q E s) → wpAny (model prog w) A (binaryOp op v u) Q E s := fun e k => i2_k e fun x y ha hb e => by
    obtain ⟨t, rfl⟩ := denB_int (ha ▸ da); obtain ⟨t', rfl⟩ := denB_int (hb ▸ db); exact k x y t t' e
  cases op with
  | Add =>
    refine orr_k e (fun e => nn e fun x y t t' e => add_int (z e)) fun e => orr_k e (fun e => s2_k e fun x y ha hb e => if_k e fun hl e => ?_) fun e => l2_k e fun x' y' ha hb e => if_k e fun hl e => ?_
    · obtain ⟨t, rfl⟩ := denB_str (ha ▸ da); obtain ⟨t', rfl⟩ := denB_str (hb ▸ db)
      refine PyProof.Rows.add_str (fun t' tk => ?_) (by rw [str_len, str_len, ← lim_eq]; exact hl)
      rw [str_add]
      exact h _ _ (keeps_toks _ _) (Option.some.inj e ▸ den_str)
    · obtain ⟨x, vs, rfl, hx, p⟩ := denB_list (ha ▸ da)
      obtain ⟨y, us, rfl, hy, q⟩ := denB_list (hb ▸ db)
      obtain ⟨⟨cls, dd, data, sl⟩, ho, hc, n, hd⟩ := list_seq hx
      obtain ⟨⟨cls2, dd2, data2, sl2⟩, ho2, hc2, n2, hd2⟩ := list_seq hy
      subst (hc : cls = _) (hd : data = _) (hc2 : cls2 = _) (hd2 : data2 = _)
      refine concat_meets ⟨_, ho, rfl⟩ ⟨_, ho2, rfl⟩ noFill_list_add seq_list_add PySem.F.slot_list_add PySem.F.entry_list_add (PySem.F.args_list_add_2 _ _)
        (list_addW x y vs.toList.toArray us.toList.toArray n n2 dd dd2 sl sl2 (by rw [List.size_toArray, List.size_toArray, p.length, q.length, ← lim_eq]; exact hl)) ⟨ho, ho2, ?_⟩
      rw [show vs.toList.toArray ++ us.toList.toArray = (vs.toList ++ us.toList).toArray from List.append_toArray _ _]
      exact h _ _ (keeps_of' (grow_push _ _)) (Option.some.inj e ▸ den_new_list (p.append q) hX)
  | Sub => exact nn e fun x y t t' e => sub_int (z e)
  | Mult => exact nn e fun x y t t' e => if_k e fun hb e => mul_int (z e) (IntMulOk.of_right (intBits_le_64 (Int.lt_trans (by decide) hb.1) (Int.lt_trans hb.2 (by decide))))
  | Mod => exact nn e fun x y t t' e => if_k e fun hb e => mod_int' hb (z e)
  | Pow =>
    exact nn e fun x y t t' e => if_k e fun hb e => by
      obtain ⟨rfl, h0, h1⟩ := hb
      exact pow_int h0 (Int.le_trans (Int.mul_le_mul_of_nonneg_left (Int.le_of_lt h1) (by decide)) (by decide)) (z e)
  | LShift => exact nn e fun x y t t' e => if_k e fun hb e => lshift_int hb.1 (shl_ok hb.2.1 hb.2.2.1 hb.2.2.2) (z e)
  | BitOr => exact nn e fun x y t t' e => or_int (z e)
  | BitAnd => exact nn e fun x y t t' e => and_int (z e)
  | FloorDiv => exact nn e fun x y t t' e => if_k e fun hb e => floordiv_int (Int.ne_of_gt hb.1) (z e) (Or.inl (PyProof.noPylong_of_log2 (log2_small hb.1 hb.2)))
  | _ => exact nope e

theorem inp_sound {op : Operator} {a b d : D} {v u : Value} (da : Den s.heap X a v) (db : Den s.heap X b u) (e : inpD op a b = some d) : Gives (model prog w) A (inplaceOp op v u) X d s := by
  refine gives_of fun Q E h => ?_
  have z : ∀ {i t n}, some (D.int i) = some d → Q (.int i t) { s with toks := n } := fun hd => h _ _ (keeps_toks _ _) (Option.some.inj hd ▸ den_int)
  have nn : ∀ {f : Int → Int → Option D}, i2 a b f = some d → (∀ x y t t', f x y = some d → wpAny (model prog w) A (inplaceOp op (.int x t) (.int y t')) Q E s) → wpAny (model prog w) A (inplaceOp op v u) Q E s := fun e k => i2_k e fun x y ha hb e => by
    obtain ⟨t, rfl⟩ := den_int_inv (ha ▸ da); obtain ⟨t', rfl⟩ := den_int_inv (hb ▸ db); exact k x y t t' e
  cases op with
  | Add =>
    refine orr_k e (fun e => nn e fun x y t t' e => iadd_int (z e)) fun e => s2_k e fun x y ha hb e => if_k e fun hl e => ?_
    obtain ⟨t, rfl⟩ := den_str_inv (ha ▸ da); obtain ⟨t', rfl⟩ := den_str_inv (hb ▸ db)
    refine iadd_str (fun t' tk => ?_) (by rw [str_len, str_len, ← lim_eq]; exact hl)
    rw [str_add]
    exact h _ _ (keeps_toks _ _) (Option.some.inj e ▸ den_str)
  | LShift => exact nn e fun x y t t' e => if_k e fun hb e => ilshift_int hb.1 (shl_ok hb.2.1 hb.2.2.1 hb.2.2.2) (z e)
  | BitOr => exact nn e fun x y t t' e => ior_int (z e)
  | _ => exact nope e

theorem two63 : (2 : Int) ^ 63 = 9223372036854775808 := by decide
theorem getLast_get {α : Type} (l : List α) {c : α} (e : l.getLast? = some c) : 0 < l.length ∧ l[l.length - 1]? = some c := by
  rw [List.getLast?_eq_getElem?] at e
  refine ⟨?_, e⟩
  cases l with
  | nil => simp at e
  | cons => simp

theorem ch_k {G : Prop} {o : Option Nat} {d : D} (e : chO o = some d) (k : ∀ c, o = some c → .str [c] = d → G) : G := by
  cases o with
  | none => exact nope e
  | some c => exact k c rfl (Option.some.inj e)
theorem ite_k2 {G : Prop} {p q : Prop} [Decidable p] [Decidable q] {a b : Option D} {d : D} (e : (if p then a else if q then b else none) = some d) (k1 : p → a = some d → G) (k2 : q → b = some d → G) : G :=
  if h : p then k1 h ((if_pos h).symm.trans e) else if_k ((if_neg h).symm.trans e) k2
theorem fit63 {i : Int} (h : i < 4611686018427387904) : i < 2 ^ 63 := Int.lt_trans h (by decide)

theorem idx_sound {a b d : D} {v u : Value} (da : DenB s.heap X a v) (db : Den s.heap X b u) (e : idxD a b = some d) :
    Gives (model prog w) A (getItem v u) X d s ∧ (∃ T id, s.TypeIs v T ∧ typeLookup (.type T) "__getitem__" = pure (some (.builtin id))) := by
  cases a with
  | str l =>
    refine atI_k e fun i hb e => ?_
    obtain ⟨t, rfl⟩ := denB_str da; obtain ⟨t', rfl⟩ := den_int_inv (hb ▸ db)
    refine ⟨gives_of fun Q E h => ite_k2 e (fun hi e => ch_k e fun c hc e2 => ?_) (fun hi e => ch_k e fun c hc e2 => ?_), "str", _, typeIs_str _ _ _, PySem.F.slot_str_getitem.lookup⟩
    · exact getItem_str (c := c) (by have := fit63 hi.2; simp; omega) (StrLaws.at_nonneg hi.1 (by simpa using hc)) (h _ _ (keeps_toks _ _) (e2 ▸ den_str))
    · subst hi
      obtain ⟨hp, hc⟩ := getLast_get l hc
      refine getItem_str (c := c) (by decide) ?_ (h _ _ (keeps_toks _ _) (e2 ▸ den_str))
      rw [str_len, seqIndex?_neg_one hp]
      simpa using hc
  | tup l =>
    refine atI_k e fun i hb e => ?_
    obtain ⟨x, vs, rfl, _, hx, p⟩ := denB_tup da; obtain ⟨t', rfl⟩ := den_int_inv (hb ▸ db)
    refine ⟨gives_of fun Q E h => if_k e fun hi e => ?_, "tuple", _, hx.typeIs, PySem.F.slot_tuple_getitem.lookup⟩
    obtain ⟨y, hy, dy⟩ := p.get e
    have hlt : i.toNat < vs.size := Array.length_toList ▸ (List.getElem?_eq_some_iff.mp hy).1
    have f := fit63 hi.2
    exact getItem_tuple hx (by omega) f (StrLaws.seqIndex_nonneg hi.1 (by omega)) (by simpa using hy) (h _ _ (keeps_refl _) dy)
  | list l =>
    refine atI_k e fun i hb e => ?_
    obtain ⟨x, vs, rfl, hx, p⟩ := denB_list da; obtain ⟨t', rfl⟩ := den_int_inv (hb ▸ db)
    refine ⟨gives_of fun Q E h => ite_k2 e (fun hi e => ?_) (fun hi e => ?_), "list", _, hx.typeIs, slot_list_getitem.lookup⟩
    · obtain ⟨y, hy, dy⟩ := p.get e
      exact wpAny_getItem_list hx hi.1 (fit63 hi.2) (by simpa using hy) (h _ _ (keeps_refl _) dy)
    · subst hi
      obtain ⟨hp, hc⟩ := getLast_get l e
      obtain ⟨y, hy, dy⟩ := p.get hc
      have hl : vs.size = l.length := Array.length_toList.symm.trans p.length
      refine wpAny_getItem_list_neg hx (by decide) (by omega) (by decide) (x := y) ?_ (h _ _ (keeps_refl _) dy)
      rw [show (-1 + (vs.size : Int)).toNat = l.length - 1 by omega]; simpa using hy
  | _ => exact nope e

theorem lim63 {n : Nat} (h : n ≤ lim) : (n : Int) < 2 ^ 63 := Int.lt_of_le_of_lt (Int.ofNat_le.mpr h) (by decide)
theorem len_sound {a d : D} {v : Value} (da : DenB s.heap X a v) (e : lenD a = some d) : Gives (model prog w) A (call (.builtin "len") [v]) X d s := by
  refine gives_of fun Q E h => ?_
  cases a with
  | str l =>
    obtain ⟨t, rfl⟩ := denB_str da
    refine if_k e fun hb e => PyProof.Rows.len_str (by rw [str_len]; exact Int.not_le.mpr (lim63 hb)) ?_
    rw [str_len]
    exact h _ _ (keeps_toks _ _) (Option.some.inj e ▸ den_int)
  | list l =>
    obtain ⟨x, vs, rfl, hx, p⟩ := denB_list da
    have lp : vs.size = l.length := Array.length_toList.symm.trans p.length
    refine if_k e fun hb e => PyProof.Rows.len_list hx (by rw [lp]; exact lim63 hb) ?_
    rw [lp]
    exact h _ _ (keeps_toks _ _) (Option.some.inj e ▸ den_int)
  | _ => exact nope e

theorem len_ne : ∀ l : List Nat, (((⟨l.toArray⟩ : Str).length : Int) != 0) = !l.isEmpty
  | [] => rfl
  | c :: r => by
    rw [str_len]
    exact bne_iff_ne.mpr (Int.ofNat_ne_zero.mpr (Nat.succ_ne_zero _))
theorem empty_eq {vs : Array Value} {l : List D} (h : vs.size = l.length) : (!vs.isEmpty) = !l.isEmpty := by
  cases l with
  | nil => rw [Array.eq_empty_of_size_eq_zero h]; rfl
  | cons c r => rw [Array.isEmpty_eq_false_iff.mpr (fun z => by subst z; exact Nat.noConfusion h)]; rfl
theorem tru_sound {a : D} {b : Bool} {v : Value} (da : DenB s.heap X a v) (e : truD a = some b) : Tests (model prog w) A (truthy v) b s := by
  refine tests_of fun Q E h => ?_
  cases a with
  | bool c => rw [denB_bool da, Option.some.inj (show some c = some b from e)]; exact wpAny_truthy_bool (h _ (keeps_refl _))
  | int i => obtain ⟨t, rfl⟩ := denB_int da; rw [← Option.some.inj (show some (i != 0) = some b from e)] at h; exact PyProof.Rows.truthy_int (h _ (keeps_refl _))
  | str l =>
    obtain ⟨t, rfl⟩ := denB_str da
    refine if_k e fun hb e => P.truthy_str (by rw [str_len]; exact Int.not_le.mpr (lim63 hb)) ?_
    rw [len_ne, Option.some.inj e]
    exact h _ (keeps_toks _ _)
  | list l =>
    obtain ⟨x, vs, rfl, hx, p⟩ := denB_list da
    have lp : vs.size = l.length := Array.length_toList.symm.trans p.length
    refine if_k e fun hb e => wpAny_truthy_list hx (by rw [lp]; exact lim63 hb) ?_
    rw [empty_eq lp, Option.some.inj e]
    exact h _ (keeps_toks _ _)
  | _ => exact nope e

theorem chr_sound {a d : D} {v : Value} (da : Den s.heap X a v) (e : chrD a = some d) : Gives (model prog w) A (call (.builtin "chr") [v]) X d s :=
  gives_of fun Q E h => atI_k e fun i ha e => if_k e fun hb e => by
    obtain ⟨t, rfl⟩ := den_int_inv (ha ▸ da)
    exact P.chr_of_int (by simp; omega) (h _ _ (keeps_toks _ _) (Option.some.inj e ▸ den_str))

end
end Mine
end

/-! S3 -/
section
open PySem PySem.W PyProof.Rows
set_option maxRecDepth 4000
set_option genInjectivity false
set_option genSizeOf false

namespace Mine

/-- expressions, names as numbers -/
inductive E where
  | var (x : Nat)
  | none
  | bool (b : Bool)
  | int (i : Int)
  | str (l : List Nat)
  | bin (op : Operator) (a b : E)
  | cmp (op : CmpOp) (a b : E)
  | cmp3 (o1 o2 : CmpOp) (a b c : E)
  | and (a b : E)
  | or (a b : E)
  | not (a : E)
  | ite (t a b : E)
  | tup2 (a b : E)
  | tup3 (a b c : E)
  | lst0
  | lst1 (a : E)
  | lst2 (a b : E)
  | idx (a i : E)
  | slc (a lo hi : E)
  | rev (a : E)
  | call1 (f : Str) (a : E)
  | call2 (f : Str) (a b : E)
  | call3 (f : Str) (a b c : E)
  | len (a : E)
  | chr (a : E)
  | join (sep : List Nat) (a : E)
  | repl (a : E) (y z : List Nat)
  | find (a : E) (c : Nat) (k j : E)
  | cat3 (a b c : E)
  | comp (x : Nat) (vis : List Nat) (elt it : E)
  | compr (x : Nat) (vis : List Nat) (elt n : E)
  | compc (x y : Nat) (vis : List Nat) (cond it : E)

inductive Mode where
  | strict | borrow | test

noncomputable def b1 (f : D → Option D) : Option D → Option D
  | some x => f x
  | none => none
noncomputable def b2 (f : D → D → Option D) (x y : Option D) : Option D := b1 (fun x => b1 (f x) y) x
noncomputable def b3 (f : D → D → D → Option D) (x y z : Option D) : Option D := b1 (fun x => b2 (f x) y z) x
noncomputable def tB : Option Bool → Option D
  | some b => some (.bool b)
  | none => none
noncomputable def tD (d : D) : Option D := tB (truD d)
noncomputable def fin (m : Mode) (r : Option D) : Option D := match m with
  | .test => b1 tD r
  | _ => r
/-- where nothing new may be made -/
noncomputable def bor (m : Mode) (r : Option D) : Option D := match m with
  | .strict => none
  | _ => fin m r
noncomputable def byM (m : Mode) (t v : Option D) : Option D := match m with
  | .test => t
  | _ => v

noncomputable def mapO (f : D → Option D) : List D → Option (List D)
  | [] => some []
  | d :: r => match f d with
    | some x => (match mapO f r with | some q => some (x :: q) | none => none)
    | none => none

noncomputable def scal : D → Bool
  | .none | .bool _ | .int _ | .str _ => true
  | _ => false
/-- a comprehension's list: `none` is left out, what stays in is scalar -/
noncomputable def coll (g : D → Option (Option D)) : List D → Option (List D)
  | [] => some []
  | d :: r => match g d with
    | some (some x) => if scal x then (match coll g r with | some q => some (x :: q) | none => none) else none
    | some none => coll g r
    | none => none
noncomputable def someO : Option D → Option (Option D)
  | some x => some (some x)
  | none => none
noncomputable def oneO : Option D → Option (Option D)
  | some (.bool true) => some (some (.int 1))
  | some (.bool false) => some none
  | _ => none

noncomputable def partD : D → Option (Option Int)
  | .none => some none
  | .int i => some (some i)
  | _ => none

noncomputable def replD (d : D) (y z : List Nat) : Option D := match d with
  | .str l => if l.length ≤ 1048576 ∧ z.length ≤ 14 ∧ y ≠ z then some (.str (Txt.replace ⟨l.toArray⟩ ⟨y.toArray⟩ ⟨z.toArray⟩).cps.toList) else none
  | _ => none

noncomputable def findAt (c : Nat) : List Nat → (k n : Nat) → Option Nat
  | [], _, _ => none
  | _ :: _, _, 0 => none
  | a :: r, k, n + 1 => if a = c then some k else findAt c r (k + 1) n
noncomputable def findD : D → Nat → D → D → Option D
  | .str l, c, .int k, .int j => if 0 ≤ k ∧ 0 ≤ j ∧ j ≤ l.length ∧ l.length ≤ lim then
      some (.int (match findAt c (l.drop k.toNat) k.toNat (j.toNat - k.toNat) with | some i => (i : Int) | none => -1)) else none
  | _, _, _, _ => none

noncomputable def catD : D → D → D → Option D
  | .str a, .str b, .str c => if a.length + b.length + c.length ≤ lim then some (.str (a ++ b ++ c)) else none
  | _, _, _ => none

noncomputable abbrev Slots := Nat → SV
noncomputable def upd (σ : Slots) (x : Nat) (v : SV) : Slots := fun y => if y = x then v else σ y
/-- what the inner block sees -/
noncomputable def inner (σ : Slots) (vis : List Nat) : Slots := fun y => if vis.contains y then σ y else .un

noncomputable def rangeL (n : Int) : List D := (List.range n.toNat).map fun i : Nat => D.int (i : Int)

noncomputable def varV (m : Mode) : SV → Option D
  | .val d => fin m (some d)
  | .own l => bor m (some (.list l))
  | _ => none
noncomputable def onB (f : Bool → Option D) : Option D → Option D
  | some (.bool b) => f b
  | _ => none
noncomputable def iteE (t a b : Option D) : Option D := onB (fun c => bif c then a else b) t
noncomputable def andV (b : Option D) (x : D) : Option Bool → Option D
  | some true => b
  | some false => some x
  | none => none
noncomputable def andS (a b : Option D) : Option D := b1 (fun x => andV b x (truD x)) a
noncomputable def andT (a b : Option D) : Option D := iteE a b (some (.bool false))
noncomputable def orT (a b : Option D) : Option D := iteE a (some (.bool true)) b
noncomputable def notT (x : Option D) : Option D := onB (fun b => some (.bool (!b))) x
noncomputable def boolO (x : Option D) : Option D := onB (fun b => some (.bool b)) x
noncomputable def c3 (o1 o2 : CmpOp) (x y z : Option D) : Option D := b2 (fun x y => iteE (cmpD o1 x y) (b1 (fun z => boolO (cmpD o2 y z)) z) (some (.bool false))) x y
noncomputable def slcO (x : D) : Option (Option Int) → Option (Option Int) → Option D
  | some p, some q => slcD x p q
  | _, _ => none
noncomputable def slcE (x l h : D) : Option D := slcO x (partD l) (partD h)
noncomputable def listO : Option (List D) → Option D
  | some r => some (.list r)
  | none => none
noncomputable def onL (f : List D → Option D) : Option D → Option D
  | some (.list l) => f l
  | _ => none
noncomputable def onI (f : Int → Option D) : Option D → Option D
  | some (.int l) => f l
  | _ => none
noncomputable def compE (g : D → Option (Option D)) (x : Option D) : Option D := onL (fun l => if l.length ≤ lim then listO (coll g l) else none) x
noncomputable def comprE (g : D → Option (Option D)) (x : Option D) : Option D := onI (fun k => if 0 ≤ k ∧ k ≤ 1000000 then listO (coll g (rangeL k)) else none) x
noncomputable def pairO (f : D → D → Option D) : D → Option (Option D)
  | .tup [p, q] => oneO (f p q)
  | _ => none

section
variable (Φ : Str → List D → Option D)
noncomputable def evm (m : Mode) : E → Slots → Option D
  | .var x, σ => varV m (σ x)
  | .none, _ => fin m (some .none)
  | .bool b, _ => fin m (some (.bool b))
  | .int i, _ => fin m (some (.int i))
  | .str l, _ => fin m (some (.str l))
  | .bin op a b, σ => fin m (b2 (binD op) (evm .strict a σ) (evm .strict b σ))
  | .cmp op a b, σ => fin m (b2 (cmpD op) (evm .borrow a σ) (evm .borrow b σ))
  | .cmp3 o1 o2 a b c, σ => byM m (c3 o1 o2 (evm .borrow a σ) (evm .borrow b σ) (evm .borrow c σ)) none
  | .and a b, σ => byM m (andT (evm .test a σ) (evm .test b σ)) (andS (evm .strict a σ) (evm .strict b σ))
  | .or a b, σ => byM m (orT (evm .test a σ) (evm .test b σ)) none
  | .not a, σ => byM m (notT (evm .test a σ)) none
  | .ite t a b, σ => byM m none (iteE (evm .test t σ) (evm .strict a σ) (evm .strict b σ))
  | .tup2 a b, σ => fin m (b2 (fun x y => some (.tup [x, y])) (evm .strict a σ) (evm .strict b σ))
  | .tup3 a b c, σ => fin m (b3 (fun x y z => some (.tup [x, y, z])) (evm .strict a σ) (evm .strict b σ) (evm .strict c σ))
  | .lst0, _ => fin m (some (.list []))
  | .lst1 a, σ => fin m (b1 (fun x => some (.list [x])) (evm .strict a σ))
  | .lst2 a b, σ => fin m (b2 (fun x y => some (.list [x, y])) (evm .strict a σ) (evm .strict b σ))
  | .idx a i, σ => fin m (b2 idxD (evm .borrow a σ) (evm .strict i σ))
  | .slc a lo hi, σ => fin m (b3 slcE (evm .borrow a σ) (evm .strict lo σ) (evm .strict hi σ))
  | .rev a, σ => fin m (b1 revD (evm .borrow a σ))
  | .call1 f a, σ => fin m (b1 (fun x => Φ f [x]) (evm .strict a σ))
  | .call2 f a b, σ => fin m (b2 (fun x y => Φ f [x, y]) (evm .strict a σ) (evm .strict b σ))
  | .call3 f a b c, σ => fin m (b3 (fun x y z => Φ f [x, y, z]) (evm .strict a σ) (evm .strict b σ) (evm .strict c σ))
  | .len a, σ => fin m (b1 lenD (evm .borrow a σ))
  | .chr a, σ => fin m (b1 chrD (evm .strict a σ))
  | .join sep a, σ => fin m (b1 (joinD sep) (evm .borrow a σ))
  | .repl a y z, σ => fin m (b1 (fun x => replD x y z) (evm .strict a σ))
  | .find a c k j, σ => fin m (b3 (fun x k j => findD x c k j) (evm .strict a σ) (evm .strict k σ) (evm .strict j σ))
  | .cat3 a b c, σ => fin m (b3 catD (evm .strict a σ) (evm .strict b σ) (evm .strict c σ))
  | .comp x vis elt it, σ => fin m (compE (fun d => someO (evm .strict elt (upd (inner σ vis) x (.val d)))) (evm .borrow it σ))
  | .compr x vis elt n, σ => fin m (comprE (fun d => someO (evm .strict elt (upd (inner σ vis) x (.val d)))) (evm .strict n σ))
  | .compc x y vis cond it, σ => fin m (compE (pairO fun p q => evm .test cond (upd (upd (inner σ vis) x (.val p)) y (.val q))) (evm .borrow it σ))
end

section
variable {G : Prop} {x y z : Option D} {d : D}
theorem b1_k {f : D → Option D} (e : b1 f x = some d) (k : ∀ a, x = some a → f a = some d → G) : G := by
  cases x with
  | none => exact nope e
  | some a => exact k a rfl e
theorem b2_k {f : D → D → Option D} (e : b2 f x y = some d) (k : ∀ a b, x = some a → y = some b → f a b = some d → G) : G :=
  b1_k e fun a h1 e => b1_k e fun b h2 e => k a b h1 h2 e
theorem b3_k {f : D → D → D → Option D} (e : b3 f x y z = some d) (k : ∀ a b c, x = some a → y = some b → z = some c → f a b c = some d → G) : G :=
  b1_k e fun a h1 e => b2_k e fun b c h2 h3 e => k a b c h1 h2 h3 e
theorem tB_k {t : Option Bool} (e : tB t = some d) (k : ∀ b, t = some b → d = .bool b → G) : G := by
  cases t with
  | none => exact nope e
  | some b => exact k b rfl (Option.some.inj e).symm
theorem onB_k {f : Bool → Option D} (e : onB f x = some d) (k : ∀ b, x = some (.bool b) → f b = some d → G) : G := by
  cases x with
  | none => exact nope e
  | some a => cases a with
    | bool b => exact k b rfl e
    | _ => exact nope e
theorem onL_k {f : List D → Option D} (e : onL f x = some d) (k : ∀ b, x = some (.list b) → f b = some d → G) : G := by
  cases x with
  | none => exact nope e
  | some a => cases a with
    | list b => exact k b rfl e
    | _ => exact nope e
theorem onI_k {f : Int → Option D} (e : onI f x = some d) (k : ∀ b, x = some (.int b) → f b = some d → G) : G := by
  cases x with
  | none => exact nope e
  | some a => cases a with
    | int b => exact k b rfl e
    | _ => exact nope e
theorem not_k (e : notT x = some d) (k : ∀ b, x = some (.bool b) → d = .bool (!b) → G) : G := onB_k e fun b h e => k b h (Option.some.inj e).symm
theorem bool_k (e : boolO x = some d) (k : ∀ b, x = some (.bool b) → d = .bool b → G) : G := onB_k e fun b h e => k b h (Option.some.inj e).symm
theorem list_k {o : Option (List D)} (e : listO o = some d) (k : ∀ r, o = some r → .list r = d → G) : G := by
  cases o with
  | none => exact nope e
  | some r => exact k r rfl (Option.some.inj e)
theorem comp_k {g : D → Option (Option D)} (e : compE g x = some d) (k : ∀ l, x = some (.list l) → l.length ≤ lim → ∀ r, coll g l = some r → .list r = d → G) : G :=
  onL_k e fun l hl e => if_k e fun h e => list_k e fun r h2 e => k l hl h r h2 e
theorem compr_k {g : D → Option (Option D)} (e : comprE g x = some d) (k : ∀ i, x = some (.int i) → 0 ≤ i ∧ i ≤ 1000000 → ∀ r, coll g (rangeL i) = some r → .list r = d → G) : G :=
  onI_k e fun l hl e => if_k e fun h e => list_k e fun r h2 e => k l hl h r h2 e
theorem slc_k {a : D} {p q : Option (Option Int)} (e : slcO a p q = some d) (k : ∀ l h, p = some l → q = some h → slcD a l h = some d → G) : G := by
  cases p with
  | none => exact nope e
  | some l => cases q with
    | none => exact nope e
    | some h => exact k l h rfl rfl e
end

end Mine
end

/-! S4 -/
section
open PySem PySem.W PyProof.Rows
set_option maxRecDepth 4000

namespace Mine

noncomputable def nmAt (ns : List Str) (x : Nat) : Str := ns.getD x ⟨#[]⟩

/-- what an inner block's table says, seen from without -/
noncomputable def kindsIn (names sc : List (Str × NameKind)) : List (Str × NameKind) :=
  names.map fun p => if (p.2 == .free && sc.lookup p.1 == some .cell) then (p.1, .cell) else p

noncomputable def visOf (ns : List Str) (names : List (Str × NameKind)) : List Nat :=
  names.filterMap fun p => if p.2 == .free then ns.idxOf? p.1 else none

noncomputable def innerOk (names sc : List (Str × NameKind)) (x : Str) : Bool :=
  names.all (fun p => p.2 != .cell) && names.all (fun p => p.2 != .local || names.lookup p.1 == some .local) && names.lookup x == some .local &&
  names.all (fun p => p.2 != .free || (sc.lookup p.1 == some .cell && names.lookup p.1 == some .free))

noncomputable def strL (x : Str) : List Nat := x.cps.toList

noncomputable def okE : Expr → Bool
  | .Starred .. => false
  | .Set .. => false
  | .Slice .. => false
  | _ => true

end Mine
end

/-! S5 -/
section
open PySem PySem.W PyProof.Rows
set_option maxRecDepth 4000

namespace Mine

noncomputable def OkA (k : Nat) (A : Around) : Prop := A.handled = none ∧ A.depth + k ≤ 500 ∧ A.units + 10 * k ≤ 5000

/-- the address of the code table, the one object of the ground that changes -/
noncomputable def tabA : Addr := 64
/-- an object of the ground -/
noncomputable def Gl (hG : Heap) (a : Addr) : Prop := a = mainGlobals ∨ a = builtinsNs ∨ a = cStatics ∨ (a ≠ tabA ∧ ∃ o, hG.get? a = some o)

structure Bas (mg mb : Str → Option Value) (hG : Heap) (h : Heap) : Prop where
  g : h.Ns mainGlobals mg
  b : h.Ns builtinsNs mb
  lim : h.NoLimit
  over : ∀ a o, a ≠ tabA → hG.get? a = some o → h.get? a = some o

theorem Bas.grow {mg mb hG h h'} (x : Bas mg mb hG h) (g : Grow h h') : Bas mg mb hG h' := ⟨x.g.keeps g, x.b.keeps g, x.lim.keeps g, fun a o n e => g _ _ (x.over a o n e)⟩

theorem Bas.gl {mg mb hG h a} (x : Bas mg mb hG h) (g : Gl hG a) : ∃ o, h.get? a = some o := by
  obtain ⟨⟨o1, _, _, e1, _⟩, ⟨o2, _, _, e2, _⟩, ⟨mc, ⟨o3, _, _, e3, _⟩, _⟩, ov⟩ := x
  rcases g with rfl | rfl | rfl | ⟨n, o, e⟩
  · exact ⟨o1, e1⟩
  · exact ⟨o2, e2⟩
  · exact ⟨o3, e3⟩
  · exact ⟨o, ov a o n e⟩

structure Built (mg mb : Str → Option Value) : Prop where
  len : mg "len" = none ∧ mb "len" = some (.builtin "len")
  chr : mg "chr" = none ∧ mb "chr" = some (.builtin "chr")
  range : mg "range" = none ∧ mb "range" = some (.type "range")
  iter : mg "iter" = none ∧ mb "iter" = some (.builtin "iter")
  next : mg "next" = none ∧ mb "next" = some (.builtin "next")
  list : mg "list" = none ∧ mb "list" = some (.type "list")
  object : mg "object" = none ∧ mb "object" = some (.type "object")

/-- what is excluded stands -/
noncomputable def Alive (X : Addr → Prop) (h : Heap) : Prop := ∀ a, X a → ∃ o, h.get? a = some o
theorem Alive.grow {X h h'} (l : Alive X h) (g : Grow h h') : Alive X h' := fun a x => let ⟨o, e⟩ := l a x; ⟨o, g _ _ e⟩
theorem Alive.new {X h} (l : Alive X h) : ¬ X h.objs.size := fun x => let ⟨_, e⟩ := l _ x; Nat.lt_irrefl _ (Heap.lt_size e)

noncomputable def EnvOk (env : Env) : Prop := env.scope.kind = .function ∧ env.globals = mainGlobals ∧ env.builtins = builtinsNs

noncomputable def Look (env : Env) (h : Heap) (n : Str) (v : Value) : Prop :=
  (env.kindOf n = some .local ∧ ∃ m, h.Ns env.locals m ∧ m n = some v) ∨ (env.kindOf n = some .cell ∧ ∃ c, env.cells.lookup n = some c ∧ h.IsCell c (some v))

theorem Look.grow {env h h' n v} (x : Look env h n v) (g : Grow h h') : Look env h' n v := by
  rcases x with ⟨k, m, hn, e⟩ | ⟨k, c, hc, hv⟩
  · exact .inl ⟨k, m, hn.keeps g, e⟩
  · exact .inr ⟨k, c, hc, hv.keeps g⟩

noncomputable def boundObj (a : Addr) : Obj := { cls := .type "builtin_function_or_method", data := .fields #[.builtin "list.append", .ref a] }

noncomputable def SlotOk (env : Env) (nm : Nat → Str) (X : Addr → Prop) (α : Nat → Addr) (h : Heap) (x : Nat) : SV → Prop
  | .un => True
  | .val d => ∃ v, Look env h (nm x) v ∧ Den h X d v
  | .own l => X (α x) ∧ Look env h (nm x) (.ref (α x)) ∧ ∃ vs, h.PlainList (α x) vs ∧ DenL h X l vs.toList
  | .iter l => X (α x) ∧ Look env h (nm x) (.ref (α x)) ∧ ∃ b i vs, ¬ X b ∧ h.IsListIter (α x) b i ∧ h.IsList b vs ∧ DenL h X l (vs.toList.drop i)
  | .bound y => ∃ q, Look env h (nm x) (.ref q) ∧ ¬ X q ∧ h.get? q = some (boundObj (α y))
  | .ptr a => Look env h (nm x) (.ref a)

/-- the mutable slots -/
noncomputable def Mut : SV → Prop
  | .own _ | .iter _ => True
  | _ => False

theorem SlotOk.map {env env' : Env} {nm : Nat → Str} {X X' : Addr → Prop} {α α' : Nat → Addr} {h h' : Heap} {x : Nat} {sv : SV} (hl : ∀ v, Look env h (nm x) v → Look env' h' (nm x) v) (m : Mono h X h' X')
    (hm : Mut sv → α' x = α x ∧ (X (α x) → X' (α x)) ∧ ∀ o, h.get? (α x) = some o → h'.get? (α x) = some o) (hb : ∀ z, sv = .bound z → α' z = α z) (k : SlotOk env nm X α h x sv) : SlotOk env' nm X' α' h' x sv := by
  cases sv with
  | un => exact trivial
  | val d => exact let ⟨v, l, p⟩ := k; ⟨v, hl v l, p.mono m⟩
  | own l =>
    obtain ⟨x1, l1, vs, ⟨n, il⟩, q⟩ := k
    obtain ⟨e, hX, ho⟩ := hm trivial
    show X' (α' x) ∧ Look env' h' (nm x) (.ref (α' x)) ∧ ∃ vs, h'.PlainList (α' x) vs ∧ DenL h' X' l vs.toList
    rw [e]
    exact ⟨hX x1, hl _ l1, vs, ⟨n, ho _ il⟩, q.mono m⟩
  | iter l =>
    obtain ⟨x1, l1, b, i, vs, nb, ⟨o1, e1, r1⟩, ⟨o2, e2, r2⟩, q⟩ := k
    obtain ⟨e, hX, ho⟩ := hm trivial
    show X' (α' x) ∧ Look env' h' (nm x) (.ref (α' x)) ∧ ∃ b i vs, ¬ X' b ∧ h'.IsListIter (α' x) b i ∧ h'.IsList b vs ∧ DenL h' X' l (vs.toList.drop i)
    rw [e]
    obtain ⟨e3, n3⟩ := m b o2 e2 nb
    exact ⟨hX x1, hl _ l1, b, i, vs, n3, ⟨o1, ho _ e1, r1⟩, ⟨o2, e3, r2⟩, q.mono m⟩
  | bound z =>
    obtain ⟨q, l, nq, e⟩ := k
    obtain ⟨e3, n3⟩ := m q _ e nq
    exact ⟨q, hl _ l, n3, (hb z rfl) ▸ e3⟩
  | ptr a => exact hl _ k
theorem SlotOk.grow {env nm X α h h' x} (g : Grow h h') {v} (k : SlotOk env nm X α h x v) : SlotOk env nm X α h' x v :=
  k.map (fun _ l => l.grow g) g.mono (fun _ => ⟨rfl, id, fun _ e => g _ _ e⟩) fun _ _ => rfl

structure EInv (mg mb : Str → Option Value) (hG : Heap) (env : Env) (nm : Nat → Str) (X : Addr → Prop) (α : Nat → Addr) (σ : Slots) (s : Shared) : Prop where
  bas : Bas mg mb hG s.heap
  tok : 1 ≤ s.toks
  live : Alive X s.heap
  slots : ∀ x, SlotOk env nm X α s.heap x (σ x)

theorem EInv.kp {mg mb hG env nm X α σ s s'} (x : EInv mg mb hG env nm X α σ s) (k : Kp s s') : EInv mg mb hG env nm X α σ s' :=
  ⟨x.bas.grow k.grow, Nat.le_trans x.tok k.2, x.live.grow k.grow, fun i => (x.slots i).grow k.grow⟩

/-- a function of the text, told by a function on data -/
noncomputable def FSpec (prog : Program) (w : World) (mg mb : Str → Option Value) (hG : Heap) (k : Nat) (f : Str) (φ : List D → Option D) : Prop :=
  ∀ (ds : List D) (d : D), φ ds = some d → ∃ a, mg f = some (.ref a) ∧ ∀ (A : Around) (s : Shared) (X : Addr → Prop) (vs : List Value), OkA k A → Bas mg mb hG s.heap → 1 ≤ s.toks → Alive X s.heap → DenL s.heap X ds vs →
    ∃ o fd, s.heap.get? a = some o ∧ o.data = .func fd ∧
      codeAny (model prog w) A (.call (.ref a) ⟨vs, []⟩) (fun r s' => ∃ v, r = .ok (.ret v) ∧ Kp s s' ∧ Den s'.heap X d v) s

section
variable {prog : Program} {w : World} {A : Around} {s : Shared} {X : Addr → Prop} {mg mb : Str → Option Value} {hG : Heap} {env : Env}

theorem eval_look {n : Str} {v : Value} {pos : Pos} {Q : Value → Shared → Prop} {E : Value → Shared → Prop} (hE : EnvOk env) (hd : (n == ("__debug__" : Str)) = false) (l : Look env s.heap n v) (h : Q v s) :
    wpAny (model prog w) A (eval (.Name n pos) env) Q E s := by
  rcases l with ⟨k, m, hn, e⟩ | ⟨k, c, hc, hv⟩
  · exact wpAny_Name (wpAny_loadName_local hE.1 k hn e h) hd
  · exact wpAny_Name (wpAny_loadName_cell hE.1 k hc hv h) hd

/-- what is asked of a mode -/
noncomputable def MG (M : Model) (A : Around) (env : Env) (e : Expr) (m : Mode) (X : Addr → Prop) (d : D) (s : Shared) : Prop := match m with
  | .strict => Gives M A (eval e env) X d s
  | .borrow => GivesB M A (eval e env) X d s
  | .test => ∃ b, d = .bool b ∧ Tests M A (isTrue e env (eval e env)) b s

theorem tD_k {G : Prop} {x d : D} (e : tD x = some d) (k : ∀ b, truD x = some b → d = .bool b → G) : G := tB_k e k
theorem mg_fin {e : Expr} {m : Mode} {r : Option D} {d : D} (e0 : fin m r = some d) (he : ∀ whole, isTrue e env whole = (do let v ← whole; standAt e.pos; holding [v] (truthy v)))
    (h : ∀ d, r = some d → Gives (model prog w) A (eval e env) X d s) : MG (model prog w) A env e m X d s := by
  cases m with
  | strict => exact h d e0
  | borrow => exact (h d e0).borrow
  | test => exact b1_k e0 fun x hx ht => tD_k ht fun b ht hd => ⟨b, hd, fun Q E hq => wpAny_isTrue_value (h x hx _ _ fun v s' k p => tru_sound p.borrow ht _ _ fun s'' k' => hq s'' (k.trans k')) (he _)⟩

theorem mg_bor {e : Expr} {m : Mode} {r : Option D} {d : D} (e0 : bor m r = some d) (he : ∀ whole, isTrue e env whole = (do let v ← whole; standAt e.pos; holding [v] (truthy v)))
    (h : ∀ d, r = some d → GivesB (model prog w) A (eval e env) X d s) : MG (model prog w) A env e m X d s := by
  cases m with
  | strict => exact nope e0
  | borrow => exact h d e0
  | test => exact b1_k e0 fun x hx ht => tD_k ht fun b ht hd => ⟨b, hd, fun Q E hq => wpAny_isTrue_value (h x hx _ _ fun v s' k p => tru_sound p ht _ _ fun s'' k' => hq s'' (k.trans k')) (he _)⟩

theorem mg1 {e : Expr} {m : Mode} {f : D → Option D} {r : Option D} {d : D} (e0 : fin m (b1 f r) = some d) (he : ∀ whole, isTrue e env whole = (do let v ← whole; standAt e.pos; holding [v] (truthy v)))
    (h : ∀ x, r = some x → ∀ d, f x = some d → Gives (model prog w) A (eval e env) X d s) : MG (model prog w) A env e m X d s :=
  mg_fin e0 he fun d e => b1_k e fun x h1 e => h x h1 d e
theorem mg2 {e : Expr} {m : Mode} {f : D → D → Option D} {r q : Option D} {d : D} (e0 : fin m (b2 f r q) = some d) (he : ∀ whole, isTrue e env whole = (do let v ← whole; standAt e.pos; holding [v] (truthy v)))
    (h : ∀ x y, r = some x → q = some y → ∀ d, f x y = some d → Gives (model prog w) A (eval e env) X d s) : MG (model prog w) A env e m X d s :=
  mg_fin e0 he fun d e => b2_k e fun x y h1 h2 e => h x y h1 h2 d e
theorem mg3 {e : Expr} {m : Mode} {f : D → D → D → Option D} {r q t : Option D} {d : D} (e0 : fin m (b3 f r q t) = some d) (he : ∀ whole, isTrue e env whole = (do let v ← whole; standAt e.pos; holding [v] (truthy v)))
    (h : ∀ x y z, r = some x → q = some y → t = some z → ∀ d, f x y z = some d → Gives (model prog w) A (eval e env) X d s) : MG (model prog w) A env e m X d s :=
  mg_fin e0 he fun d e => b3_k e fun x y z h1 h2 h3 e => h x y z h1 h2 h3 d e

theorem MG.toB {e : Expr} {m : Mode} {d : D} (h : MG (model prog w) A env e m X d s) (hm : m ≠ .test) : GivesB (model prog w) A (eval e env) X d s := by
  cases m with
  | strict => exact Gives.borrow h
  | borrow => exact h
  | test => exact absurd rfl hm

variable (prog w mg mb hG) in
/-- the soundness of one expression -/
noncomputable def Snd (A : Around) (Φ : Str → List D → Option D) (nm : Nat → Str) (env : Env) (e : Expr) (c : E) : Prop :=
  ∀ (m : Mode) (X : Addr → Prop) (α : Nat → Addr) (σ : Slots) (s : Shared) (d : D), EInv mg mb hG env nm X α σ s → evm Φ m c σ = some d → MG (model prog w) A env e m X d s

variable {Φ : Str → List D → Option D} {nm : Nat → Str}

theorem snd_var {n : Str} {x : Nat} {pos : Pos} (hE : EnvOk env) (hd : (n == ("__debug__" : Str)) = false) (hx : nm x = n) : Snd prog w mg mb hG A Φ nm env (.Name n pos) (.var x) := by
  intro m X α σ s d I e
  have sl := I.slots x
  replace e : varV m (σ x) = some d := e
  revert sl e
  rw [← hx] at hd ⊢
  generalize σ x = sv
  intro sl e
  cases sv with
  | val d' => exact mg_fin e (fun _ => rfl) fun d'' h => Option.some.inj h ▸ let ⟨v, l, p⟩ := sl; fun Q E hq => eval_look hE hd l (hq v s (kp_refl s) p)
  | own l => exact mg_bor e (fun _ => rfl) fun d'' h => Option.some.inj h ▸ let ⟨_, lk, vs, il, p⟩ := sl; fun Q E hq => eval_look hE hd lk (hq _ s (kp_refl s) ⟨_, vs, rfl, il.isList, p⟩)
  | _ => exact nope e

theorem mgC {e : Expr} {m : Mode} {d d' : D} (e0 : fin m (some d') = some d) (he : ∀ whole, isTrue e env whole = (do let v ← whole; standAt e.pos; holding [v] (truthy v)))
    (h : Gives (model prog w) A (eval e env) X d' s) : MG (model prog w) A env e m X d s := mg_fin e0 he fun d e => Option.some.inj e ▸ h
theorem snd_none {k pos} : Snd prog w mg mb hG A Φ nm env (.Constant .none k pos) .none :=
  fun _ _ _ _ s _ _ e => mgC e (fun _ => rfl) fun Q E hq => wpAny_Constant_none (hq _ s (kp_refl s) den_none)
theorem snd_bool {b k pos} : Snd prog w mg mb hG A Φ nm env (.Constant (.bool b) k pos) (.bool b) :=
  fun _ _ _ _ s _ _ e => mgC e (fun _ => rfl) fun Q E hq => wpAny_Constant_bool (hq _ s (kp_refl s) den_bool)
theorem snd_int {i k pos} : Snd prog w mg mb hG A Φ nm env (.Constant (.int i) k pos) (.int i) :=
  fun _ _ _ _ s _ _ e => mgC e (fun _ => rfl) fun Q E hq => wpAny_Constant_int (hq _ _ (kp_toks s 1) den_int)
theorem strL_eq (x : Str) : (⟨(strL x).toArray⟩ : Str) = x := by simp [strL]
theorem snd_str {x : Str} {k pos} : Snd prog w mg mb hG A Φ nm env (.Constant (.str x) k pos) (.str (strL x)) :=
  fun _ _ _ _ s _ _ e => mgC e (fun _ => rfl) fun Q E hq => wpAny_Constant_str (strL_eq x ▸ hq (.str ⟨(strL x).toArray⟩ s.toks) _ (kp_toks s 1) den_str)
theorem snd_neg {i k p pos} : Snd prog w mg mb hG A Φ nm env (.UnaryOp .USub (.Constant (.int i) k p) pos) (.int (-i)) :=
  fun _ _ _ _ s _ _ e => mgC e (fun _ => rfl) (gives_of fun Q E hq => wpAny_UnaryOp (wpAny_Constant_int (neg_int (hq _ _ (keeps_trans (keeps_toks _ _) (keeps_toks _ _)) den_int))))

end
end Mine
end

/-! S6 -/
section
open PySem PySem.W PyProof.Rows
set_option maxRecDepth 4000

namespace Mine
section
variable {prog : Program} {w : World} {A : Around} {mg mb : Str → Option Value} {hG : Heap} {env : Env} {Φ : Str → List D → Option D} {nm : Nat → Str}

/-- evaluate one, go on -/
theorem ev1 {e : Expr} {c : E} (h : Snd prog w mg mb hG A Φ nm env e c) {X α σ s d} (I : EInv mg mb hG env nm X α σ s) (e1 : evm Φ .strict c σ = some d) {Q : Value → Shared → Prop} {E : Value → Shared → Prop}
    (k : ∀ v s', Kp s s' → EInv mg mb hG env nm X α σ s' → Den s'.heap X d v → Q v s') : wpAny (model prog w) A (eval e env) Q E s :=
  (h .strict X α σ s d I e1) Q E fun v s' kp p => k v s' kp (I.kp kp) p
theorem evB {e : Expr} {c : E} (h : Snd prog w mg mb hG A Φ nm env e c) {X α σ s d} (I : EInv mg mb hG env nm X α σ s) (e1 : evm Φ .borrow c σ = some d) {Q : Value → Shared → Prop} {E : Value → Shared → Prop}
    (k : ∀ v s', Kp s s' → EInv mg mb hG env nm X α σ s' → DenB s'.heap X d v → Q v s') : wpAny (model prog w) A (eval e env) Q E s :=
  (h .borrow X α σ s d I e1) Q E fun v s' kp p => k v s' kp (I.kp kp) p
theorem evT {e : Expr} {c : E} (h : Snd prog w mg mb hG A Φ nm env e c) {X α σ s d} (I : EInv mg mb hG env nm X α σ s) (e1 : evm Φ .test c σ = some d) {Q : Bool → Shared → Prop} {E : Value → Shared → Prop}
    (k : ∀ b s', d = .bool b → Kp s s' → EInv mg mb hG env nm X α σ s' → Q b s') : wpAny (model prog w) A (isTrue e env (eval e env)) Q E s := by
  obtain ⟨b, hb, t⟩ := h .test X α σ s d I e1
  exact t Q E fun s' kp => k b s' hb kp (I.kp kp)

variable {a b c : Expr} {ca cb cc : E}

theorem snd_bin {op pos} (ha : Snd prog w mg mb hG A Φ nm env a ca) (hb : Snd prog w mg mb hG A Φ nm env b cb) : Snd prog w mg mb hG A Φ nm env (.BinOp a op b pos) (.bin op ca cb) :=
  fun _ _ _ _ _ _ I e => mg2 e (fun _ => rfl) fun x y h1 h2 d' hr Q E hq => wpAny_BinOp (ev1 ha I h1 fun v s1 k1 I1 p1 => ev1 hb I1 h2 fun u s2 k2 I2 p2 =>
    bin_sound I2.live.new (p1.mono k2.grow.mono).borrow p2.borrow hr _ _ fun r s3 k3 p3 => hq r s3 (k1.trans (k2.trans k3)) p3)

theorem snd_cmp {op pos} (ha : Snd prog w mg mb hG A Φ nm env a ca) (hb : Snd prog w mg mb hG A Φ nm env b cb) (hu : A.units < cLine) (hm : behindInMarks op b = false) :
    Snd prog w mg mb hG A Φ nm env (.Compare a [op] [b] pos) (.cmp op ca cb) := by
  intro m X α σ s d I e
  have key : ∀ d', b2 (cmpD op) (evm Φ .borrow ca σ) (evm Φ .borrow cb σ) = some d' → Gives (model prog w) A (eval (.Compare a [op] [b] pos) env) X d' s :=
    fun d' e => b2_k e fun x y h1 h2 hr Q E hq => wpAny_Compare1 (evB ha I h1 fun v s1 k1 I1 p1 => evB hb I1 h2 fun u s2 k2 I2 p2 =>
      cmp_sound hu (p1.grow k2.grow) p2 hr _ _ fun r s3 k3 p3 => hq r s3 (k1.trans (k2.trans k3)) p3) hm
  cases m with
  | strict => exact key d e
  | borrow => exact (key d e).borrow
  | test => exact b1_k e fun r e ht => b2_k e fun x y h1 h2 hr => tD_k ht fun t ht hd => ⟨t, hd, fun Q E hq => wpAny_isTrue_Compare1 (evB ha I h1 fun v s1 k1 I1 p1 => evB hb I1 h2 fun u s2 k2 I2 p2 =>
      cmp_sound hu (p1.grow k2.grow) p2 hr _ _ fun r' s3 k3 p3 => tru_sound p3.borrow ht _ _ fun s4 k4 => hq s4 (k1.trans (k2.trans (k3.trans k4)))) hm⟩

theorem and_val {pos} {X α σ s d} (I : EInv mg mb hG env nm X α σ s) (ha : Snd prog w mg mb hG A Φ nm env a ca) (hb : Snd prog w mg mb hG A Φ nm env b cb) (e : andS (evm Φ .strict ca σ) (evm Φ .strict cb σ) = some d) :
    Gives (model prog w) A (eval (.BoolOp .And [a, b] pos) env) X d s :=
  b1_k e fun x h1 e Q E hq => by
    cases h2 : truD x with
    | none => exact nope ((congrArg (andV _ _) h2).symm.trans e)
    | some t =>
      replace e := (congrArg (andV _ _) h2).symm.trans e
      refine wpAny_And2 (ev1 ha I h1 fun v s1 k1 I1 p1 => tru_sound p1.borrow h2 _ _ fun s2 k2 => ?_)
      cases t with
      | true => exact ev1 hb (I1.kp k2) e fun u s3 k3 I3 p3 => hq u s3 (k1.trans (k2.trans k3)) p3
      | false => exact hq v s2 (k1.trans k2) (Option.some.inj e ▸ p1.mono k2.grow.mono)

theorem tst {X α σ s d} (I : EInv mg mb hG env nm X α σ s) (ha : Snd prog w mg mb hG A Φ nm env a ca) (e : evm Φ .test ca σ = some (.bool d)) {Q : Bool → Shared → Prop} {E : Value → Shared → Prop} (k : ∀ s', Kp s s' → Q d s') : wpAny (model prog w) A (isTrue a env (eval a env)) Q E s :=
  evT ha I e fun b s' hb kp _ => (D.bool.inj hb) ▸ k s' kp
theorem tst_is {X α σ s d} (I : EInv mg mb hG env nm X α σ s) (ha : Snd prog w mg mb hG A Φ nm env a ca) (e : evm Φ .test ca σ = some d) : ∃ b, d = .bool b :=
  let ⟨b, hb, _⟩ := ha .test X α σ s d I e; ⟨b, hb⟩

theorem snd_and {pos} (ha : Snd prog w mg mb hG A Φ nm env a ca) (hb : Snd prog w mg mb hG A Φ nm env b cb) : Snd prog w mg mb hG A Φ nm env (.BoolOp .And [a, b] pos) (.and ca cb) := by
  intro m X α σ s d I e
  cases m with
  | strict => exact and_val I ha hb e
  | borrow => exact (and_val I ha hb e).borrow
  | test =>
    refine onB_k e fun t h1 e => ?_
    cases t with
    | true =>
      obtain ⟨t, rfl⟩ := tst_is I hb e
      refine ⟨t, rfl, fun Q E hq => wpAny_isTrue_BoolOp (wpAny_allTrue_And_cons (tst I ha h1 fun s1 k1 => wpAny_allTrue_And_cons (tst (I.kp k1) hb e fun s2 k2 => ?_)))⟩
      cases t with
      | true => exact wpAny_allTrue_And_nil (hq s2 (k1.trans k2))
      | false => exact hq s2 (k1.trans k2)
    | false => exact ⟨false, (Option.some.inj e).symm, fun Q E hq => wpAny_isTrue_BoolOp (wpAny_allTrue_And_cons (tst I ha h1 fun s1 k1 => hq s1 k1))⟩

theorem snd_or {pos} (ha : Snd prog w mg mb hG A Φ nm env a ca) (hb : Snd prog w mg mb hG A Φ nm env b cb) : Snd prog w mg mb hG A Φ nm env (.BoolOp .Or [a, b] pos) (.or ca cb) := by
  intro m X α σ s d I e
  cases m with
  | strict => exact nope e
  | borrow => exact nope e
  | test =>
    refine onB_k e fun t h1 e => ?_
    cases t with
    | false =>
      obtain ⟨t, rfl⟩ := tst_is I hb e
      refine ⟨t, rfl, fun Q E hq => wpAny_isTrue_BoolOp (wpAny_allTrue_Or_cons (tst I ha h1 fun s1 k1 => ?_))⟩
      rw [if_neg Bool.false_ne_true]
      refine wpAny_allTrue_Or_cons (tst (I.kp k1) hb e fun s2 k2 => ?_)
      cases t with
      | false => exact wpAny_allTrue_Or_nil (hq s2 (k1.trans k2))
      | true => exact hq s2 (k1.trans k2)
    | true => exact ⟨true, (Option.some.inj e).symm, fun Q E hq => wpAny_isTrue_BoolOp (wpAny_allTrue_Or_cons (tst I ha h1 fun s1 k1 => hq s1 k1))⟩

theorem snd_not {pos} (ha : Snd prog w mg mb hG A Φ nm env a ca) : Snd prog w mg mb hG A Φ nm env (.UnaryOp .Not a pos) (.not ca) := by
  intro m X α σ s d I e
  cases m with
  | strict => exact nope e
  | borrow => exact nope e
  | test => exact not_k e fun t h1 hd => ⟨!t, hd, fun Q E hq => wpAny_isTrue_Not (tst I ha h1 fun s1 k1 => hq s1 k1)⟩

theorem ite_val {pos} {X α σ s d} (I : EInv mg mb hG env nm X α σ s) (hc : Snd prog w mg mb hG A Φ nm env c cc) (ha : Snd prog w mg mb hG A Φ nm env a ca) (hb : Snd prog w mg mb hG A Φ nm env b cb) (e : iteE (evm Φ .test cc σ) (evm Φ .strict ca σ) (evm Φ .strict cb σ) = some d) :
    Gives (model prog w) A (eval (.IfExp c a b pos) env) X d s :=
  onB_k e fun t h1 e Q E hq => wpAny_IfExp (tst I hc h1 fun s1 k1 => by
    cases t with
    | true => exact ev1 ha (I.kp k1) e fun v s2 k2 I2 p2 => hq v s2 (k1.trans k2) p2
    | false => exact ev1 hb (I.kp k1) e fun v s2 k2 I2 p2 => hq v s2 (k1.trans k2) p2)
theorem snd_ite {pos} (hc : Snd prog w mg mb hG A Φ nm env c cc) (ha : Snd prog w mg mb hG A Φ nm env a ca) (hb : Snd prog w mg mb hG A Φ nm env b cb) : Snd prog w mg mb hG A Φ nm env (.IfExp c a b pos) (.ite cc ca cb) := by
  intro m X α σ s d I e
  cases m with
  | strict => exact ite_val I hc ha hb e
  | borrow => exact (ite_val I hc ha hb e).borrow
  | test => exact nope e

theorem snd_cmp3 {o1 o2 pos} (ha : Snd prog w mg mb hG A Φ nm env a ca) (hb : Snd prog w mg mb hG A Φ nm env b cb) (hc : Snd prog w mg mb hG A Φ nm env c cc) (hu : A.units < cLine)
    (hm : behindInMarks o1 b = false) (hm' : behindInMarks o2 c = false) :
    Snd prog w mg mb hG A Φ nm env (.Compare a [o1, o2] [b, c] pos) (.cmp3 o1 o2 ca cb cc) := by
  intro m X α σ s d I e
  cases m with
  | strict => exact nope e
  | borrow => exact nope e
  | test =>
    refine b2_k e fun x y h1 h2 e => onB_k e fun t h3 e => ?_
    have first : ∀ (Q : Bool → Shared → Prop) (E : Value → Shared → Prop), (∀ u s', Kp s s' → EInv mg mb hG env nm X α σ s' → DenB s'.heap X y u → t = true → wpAny (model prog w) A (testChain pos u [o2] [eval c env]) Q E s') → (t = false → ∀ s', Kp s s' → Q false s') →
        wpAny (model prog w) A (isTrue (.Compare a [o1, o2] [b, c] pos) env (eval (.Compare a [o1, o2] [b, c] pos) env)) Q E s := by
      intro Q E k1 k2
      refine isTrue_chain (evB ha I h1 fun v s1 q1 I1 p1 => test_link (evB hb I1 h2 fun u s2 q2 I2 p2 => ?_)) hm'
      refine cmp_sound hu (p1.grow q2.grow) p2 h3 _ _ fun r s3 q3 p3 => ?_
      rw [den_bool_inv p3]
      refine wpAny_truthy_bool ?_
      cases t with
      | true => exact k1 u s3 (q1.trans (q2.trans q3)) (I2.kp q3) (p2.grow q3.grow) rfl
      | false => exact k2 rfl s3 (q1.trans (q2.trans q3))
    cases t with
    | false => exact ⟨false, (Option.some.inj e).symm, fun Q E hq => first Q E (fun _ _ _ _ _ h => Bool.noConfusion h) fun _ s' q => hq s' q⟩
    | true =>
      refine b1_k e fun z h4 e => bool_k e fun t h5 hd => ⟨t, hd, fun Q E hq => first Q E (fun u s' q I' p _ => test_last (evB hc I' h4 fun v s2 q2 I2 p2 => cmp_sound hu (p.grow q2.grow) p2 h5 _ _ fun r s3 q3 p3 => ?_)) fun h => Bool.noConfusion h⟩
      rw [den_bool_inv p3]
      exact wpAny_truthy_bool (hq s3 (q.trans (q2.trans q3)))

/-- no star at the head -/
noncomputable def plainE : Expr → Bool
  | .Starred .. => false
  | _ => true
theorem starEach_plain {e : Expr} {r : List Expr} (h : plainE e = true) : starEach (e :: r) env = (false, eval e env) :: starEach r env := by
  cases e with
  | Starred => exact Bool.noConfusion h
  | _ => rfl

theorem items1 {pos : Pos} {X α σ s x} (pa : plainE a = true) (ha : Snd prog w mg mb hG A Φ nm env a ca) (I : EInv mg mb hG env nm X α σ s) (h1 : evm Φ .strict ca σ = some x) {Q : List Value → Shared → Prop} {E : Value → Shared → Prop}
    (k : ∀ v s', Kp s s' → EInv mg mb hG env nm X α σ s' → Den s'.heap X x v → Q [v] s') : wpAny (model prog w) A (spliced (backTo pos (starEach [a] env))) Q E s :=
  wpAny_items_cons (ev1 ha I h1 fun v s1 k1 I1 p1 => wpAny_items_nil (k v s1 k1 I1 p1)) (starEach_plain pa)
theorem items2 {pos : Pos} {X α σ s x y} (pa : plainE a = true) (pb : plainE b = true) (ha : Snd prog w mg mb hG A Φ nm env a ca) (hb : Snd prog w mg mb hG A Φ nm env b cb) (I : EInv mg mb hG env nm X α σ s) (h1 : evm Φ .strict ca σ = some x) (h2 : evm Φ .strict cb σ = some y)
    {Q : List Value → Shared → Prop} {E : Value → Shared → Prop}
    (k : ∀ v u s', Kp s s' → EInv mg mb hG env nm X α σ s' → Den s'.heap X x v → Den s'.heap X y u → Q [v, u] s') : wpAny (model prog w) A (spliced (backTo pos (starEach [a, b] env))) Q E s :=
  wpAny_items_cons (ev1 ha I h1 fun v s1 k1 I1 p1 => wpAny_items_cons (ev1 hb I1 h2 fun u s2 k2 I2 p2 => wpAny_items_nil (k v u s2 (k1.trans k2) I2 (p1.mono k2.grow.mono) p2)) (starEach_plain pb)) (starEach_plain pa)
theorem items3 {pos : Pos} {X α σ s x y z} (pa : plainE a = true) (pb : plainE b = true) (pc : plainE c = true) (ha : Snd prog w mg mb hG A Φ nm env a ca) (hb : Snd prog w mg mb hG A Φ nm env b cb) (hc : Snd prog w mg mb hG A Φ nm env c cc)
    (I : EInv mg mb hG env nm X α σ s) (h1 : evm Φ .strict ca σ = some x) (h2 : evm Φ .strict cb σ = some y) (h3 : evm Φ .strict cc σ = some z)
    {Q : List Value → Shared → Prop} {E : Value → Shared → Prop}
    (k : ∀ v u t s', Kp s s' → EInv mg mb hG env nm X α σ s' → Den s'.heap X x v → Den s'.heap X y u → Den s'.heap X z t → Q [v, u, t] s') : wpAny (model prog w) A (spliced (backTo pos (starEach [a, b, c] env))) Q E s :=
  wpAny_items_cons (ev1 ha I h1 fun v s1 k1 I1 p1 => items2 pb pc hb hc I1 h2 h3 fun u t s2 k2 I2 p2 p3 => k v u t s2 (k1.trans k2) I2 (p1.mono k2.grow.mono) p2 p3) (starEach_plain pa)

theorem small_size {n : Nat} (h : n ≤ 3) : n ≤ sizeLine := by rw [sizeLine_eq]; omega

theorem snd_tup2 {k pos} (pa : plainE a = true) (pb : plainE b = true) (ha : Snd prog w mg mb hG A Φ nm env a ca) (hb : Snd prog w mg mb hG A Φ nm env b cb) : Snd prog w mg mb hG A Φ nm env (.Tuple [a, b] k pos) (.tup2 ca cb) :=
  fun _ _ _ _ _ _ I e => mg2 e (fun _ => rfl) fun x y h1 h2 d' hr Q E hq => wpAny_Tuple (items2 pa pb ha hb I h1 h2 fun v u s1 k1 I1 p1 p2 => ⟨small_size (Nat.le_of_ble_eq_true rfl), hq _ _ (k1.trans (kp_push _ _)) (Option.some.inj hr ▸ den_new_tup (.cons p1 (.cons p2 .nil)) I1.live.new)⟩)
theorem snd_tup3 {k pos} (pa : plainE a = true) (pb : plainE b = true) (pc : plainE c = true) (ha : Snd prog w mg mb hG A Φ nm env a ca) (hb : Snd prog w mg mb hG A Φ nm env b cb) (hc : Snd prog w mg mb hG A Φ nm env c cc) :
    Snd prog w mg mb hG A Φ nm env (.Tuple [a, b, c] k pos) (.tup3 ca cb cc) :=
  fun _ _ _ _ _ _ I e => mg3 e (fun _ => rfl) fun x y z h1 h2 h3 d' hr Q E hq => wpAny_Tuple (items3 pa pb pc ha hb hc I h1 h2 h3 fun v u t s1 k1 I1 p1 p2 p3 => ⟨small_size (Nat.le_of_ble_eq_true rfl), hq _ _ (k1.trans (kp_push _ _)) (Option.some.inj hr ▸ den_new_tup (.cons p1 (.cons p2 (.cons p3 .nil))) I1.live.new)⟩)
theorem snd_lst0 {pos} : Snd prog w mg mb hG A Φ nm env (.List [] pos) .lst0 :=
  fun _ _ _ _ _ _ I e => mgC e (fun _ => rfl) fun Q E hq => wpAny_List (wpAny_items_nil ⟨small_size (Nat.le_of_ble_eq_true rfl), hq _ _ (kp_push _ _) (den_new_list .nil I.live.new)⟩)
theorem snd_lst1 {pos} (pa : plainE a = true) (ha : Snd prog w mg mb hG A Φ nm env a ca) : Snd prog w mg mb hG A Φ nm env (.List [a] pos) (.lst1 ca) :=
  fun _ _ _ _ _ _ I e => mg1 e (fun _ => rfl) fun x h1 d' hr Q E hq => wpAny_List (items1 pa ha I h1 fun v s1 k1 I1 p1 => ⟨small_size (Nat.le_of_ble_eq_true rfl), hq _ _ (k1.trans (kp_push _ _)) (Option.some.inj hr ▸ den_new_list (.cons p1 .nil) I1.live.new)⟩)
theorem snd_lst2 {pos} (pa : plainE a = true) (pb : plainE b = true) (ha : Snd prog w mg mb hG A Φ nm env a ca) (hb : Snd prog w mg mb hG A Φ nm env b cb) : Snd prog w mg mb hG A Φ nm env (.List [a, b] pos) (.lst2 ca cb) :=
  fun _ _ _ _ _ _ I e => mg2 e (fun _ => rfl) fun x y h1 h2 d' hr Q E hq => wpAny_List (items2 pa pb ha hb I h1 h2 fun v u s1 k1 I1 p1 p2 => ⟨small_size (Nat.le_of_ble_eq_true rfl), hq _ _ (k1.trans (kp_push _ _)) (Option.some.inj hr ▸ den_new_list (.cons p1 (.cons p2 .nil)) I1.live.new)⟩)

noncomputable def notSlice : Expr → Bool
  | .Slice .. => false
  | _ => true

theorem snd_idx {pos} (hn : notSlice b = true) (ha : Snd prog w mg mb hG A Φ nm env a ca) (hb : Snd prog w mg mb hG A Φ nm env b cb) : Snd prog w mg mb hG A Φ nm env (.Subscript a b pos) (.idx ca cb) :=
  fun _ _ _ _ _ _ I e => mg2 e (fun _ => rfl) fun x y h1 h2 d' hr Q E hq => PyProof.Rows.Subscript_ (evB ha I h1 fun v s1 k1 I1 p1 => ev1 hb I1 h2 fun u s2 k2 I2 p2 => by
    obtain ⟨g, T, id, hT, hl⟩ := idx_sound (prog := prog) (w := w) (A := A) (p1.grow k2.grow) p2 hr
    refine tail_any hT hl (g _ _ fun r s3 k3 p3 => hq r s3 (k1.trans (k2.trans k3)) p3) (ops := [v, u]) ?_
    revert hn
    cases b with
    | Slice => exact fun h => Bool.noConfusion h
    | _ => exact fun _ => rfl)

theorem partOf {x : D} {v : Value} {h : Heap} {X : Addr → Prop} {p : Option Int} (dx : Den h X x v) (e : partD x = some p) : IsPart v p ∧ ∃ l, v = partValue l ∧ l.map (·.1) = p := by
  cases x with
  | none => exact den_none_inv dx ▸ Option.some.inj e ▸ ⟨.none, none, rfl, rfl⟩
  | int i => exact let ⟨t, h⟩ := den_int_inv dx; h ▸ Option.some.inj e ▸ ⟨.int _ _, some (_, t), rfl, rfl⟩
  | _ => exact nope e

theorem evalPart_E {e : Option Expr} {c : E} {X α σ s x} (he : match e with | none => c = .none | some e => Snd prog w mg mb hG A Φ nm env e c) (I : EInv mg mb hG env nm X α σ s) (h1 : evm Φ .strict c σ = some x) {Q : Value → Shared → Prop} {E : Value → Shared → Prop}
    (k : ∀ v s', Kp s s' → EInv mg mb hG env nm X α σ s' → Den s'.heap X x v → Q v s') : wpAny (model prog w) A (evalPart e env) Q E s := by
  cases e with
  | none =>
    subst he
    exact wpAny_evalPart_none (k _ s (kp_refl s) I (Option.some.inj h1 ▸ den_none))
  | some e => exact wpAny_evalPart_some (ev1 he I h1 k)

theorem clip_nat (m n : Nat) : max 0 (min (m : Int) (n : Int)) = ((min m n : Nat) : Int) := by
  rcases Nat.le_total m n with h | h
  · rw [Nat.min_eq_left h, Int.min_eq_left (Int.ofNat_le.mpr h), Int.max_eq_right (Int.natCast_nonneg m)]
  · rw [Nat.min_eq_right h, Int.min_eq_right (Int.ofNat_le.mpr h), Int.max_eq_right (Int.natCast_nonneg n)]

theorem indices_eq (n : Nat) (lo hi : Option Int) (h0 : 0 ≤ lo.getD 0) (h1 : 0 ≤ hi.getD 0) :
    Builtin.Str.strSliceIndices lo hi 1 n = (List.range (min (hi.elim n Int.toNat) n - min (lo.getD 0).toNat n)).map (min (lo.getD 0).toNat n + ·) := by
  rw [← sliceRange_one]
  simp only [Builtin.Str.strSliceIndices, show ((1 : Int) > 0) = True from by simp, if_true]
  congr 1
  · cases lo with
    | none => simp
    | some i =>
      obtain ⟨m, rfl⟩ := Int.eq_ofNat_of_zero_le (show 0 ≤ i from h0)
      show max 0 (min (if (m : Int) < 0 then (m : Int) + n else m) n) = ((min m n : Nat) : Int)
      rw [if_neg (Int.not_lt.mpr (Int.natCast_nonneg m))]
      exact clip_nat m n
  · cases hi with
    | none => simp
    | some i =>
      obtain ⟨m, rfl⟩ := Int.eq_ofNat_of_zero_le (show 0 ≤ i from h1)
      show max 0 (min (if (m : Int) < 0 then (m : Int) + n else m) n) = ((min m n : Nat) : Int)
      rw [if_neg (Int.not_lt.mpr (Int.natCast_nonneg m))]
      exact clip_nat m n

theorem pick_min (l : List Nat) (a b : Nat) : (l.drop (min a l.length)).take (min b l.length - min a l.length) = (l.take b).drop a := by
  rcases Nat.le_total a l.length with ha | ha
  · rw [Nat.min_eq_left ha]
    rcases Nat.le_total b l.length with hb | hb
    · rw [Nat.min_eq_left hb, List.drop_take]
    · rw [Nat.min_eq_right hb, List.take_of_length_le hb, List.take_of_length_le (Nat.le_of_eq List.length_drop)]
  · rw [Nat.min_eq_right ha, List.drop_length, List.take_nil, List.drop_eq_nil_of_le (Nat.le_trans (List.length_take_le' b l) ha)]

theorem min_fit (a b n : Nat) : min a n + (min b n - min a n) ≤ n := by
  rcases Nat.le_total (min a n) (min b n) with h | h
  · exact Nat.le_trans (Nat.le_of_eq (Nat.add_sub_cancel' h)) (Nat.min_le_right b n)
  · rw [Nat.sub_eq_zero_of_le h]; exact Nat.min_le_right a n

theorem slice_str (l : List Nat) (lo hi : Option Int) (h0 : 0 ≤ lo.getD 0) (h1 : 0 ≤ hi.getD 0) :
    (Builtin.Str.strSliceIndices lo hi 1 l.length).filterMap (l[·]?) = (l.take (hi.elim l.length Int.toNat)).drop (lo.getD 0).toNat := by
  rw [indices_eq _ _ _ h0 h1, StrLaws.picks l _ _ (min_fit _ _ _)]
  exact pick_min _ _ _

theorem pick_str {t : List Nat} {l u : Option Int} {l' u' : Option (Int × Tok)} (el : l'.map (·.1) = l) (eu : u'.map (·.1) = u) : slicePicked ⟨t.toArray⟩ l' u' none = Builtin.Str.strSliceIndices l u 1 t.length := by
  unfold slicePicked
  rw [el, eu, str_len]
  rfl
/-- the whole text taken -/
theorem whole_slice {t : List Nat} {l u : Option Int} (c1 : 0 ≤ l.getD 0) (c2 : 0 ≤ u.getD 0) (h : (Builtin.Str.strSliceIndices l u 1 t.length).length = t.length) : (t.take (u.elim t.length Int.toNat)).drop (l.getD 0).toNat = t := by
  rw [indices_eq _ _ _ c1 c2, List.length_map, List.length_range] at h
  rw [← pick_min, h]
  by_cases ht : t.length = 0
  · rw [List.eq_nil_of_length_eq_zero ht, List.drop_nil, List.take_nil]
  · have a0 : min (l.getD 0).toNat t.length = 0 := by omega
    rw [a0, List.drop_zero, List.take_length]

theorem slcS_k {G : Prop} {t : List Nat} {l u : Option Int} {d : D} (e : slcD (.str t) l u = some d) (k : 0 ≤ l.getD 0 → 0 ≤ u.getD 0 → t.length ≤ lim → .str ((t.take (u.elim t.length Int.toNat)).drop (l.getD 0).toNat) = d → G) : G :=
  if_k e fun h e => k h.1 h.2.1 h.2.2 (Option.some.inj e)

theorem snd_slc {v : Str} {p p2 pos : Pos} {lo hi : Option Expr} {cl ch : E} (ha : Snd prog w mg mb hG A Φ nm env (.Name v p) ca)
    (hl : match lo with | none => cl = .none | some e => Snd prog w mg mb hG A Φ nm env e cl) (hh : match hi with | none => ch = .none | some e => Snd prog w mg mb hG A Φ nm env e ch) :
    Snd prog w mg mb hG A Φ nm env (.Subscript (.Name v p) (.Slice lo hi none p2) pos) (.slc ca cl ch) := by
  intro m X α σ s d I e
  refine mg3 e (fun _ => rfl) fun x y z h1 h2 h3 d' hr0 => slc_k hr0 fun l u h4 h5 hr => ?_
  clear hr0
  cases x with
  | str t =>
    refine slcS_k hr fun c1 c2 c3 hr => gives_of fun Q E hq => wpAny_Subscript_str_slice (evB ha I h1 fun v s1 k1 I1 p1 => evalPart_E hl I1 h2 fun vl s2 k2 I2 p2 => evalPart_E hh I2 h3 fun vu s3 k3 I3 p3 => ?_)
    obtain ⟨tk, rfl⟩ := denB_str p1
    obtain ⟨_, l', el, el'⟩ := partOf p2 h4
    obtain ⟨_, u', eu, eu'⟩ := partOf p3 h5
    refine ⟨_, _, l', u', rfl, el, eu, ?_⟩
    have kk : Keeps s { s3 with heap := s3.heap.push { cls := .type "slice", data := .fields #[vl, vu, .none] } } := keeps_trans (k1.trans (k2.trans k3)).1 (keeps_of' (grow_push _ _))
    have hp := pick_str (t := t) el' eu'
    unfold sliceMade
    split
    · rename_i hw
      have hw := eq_of_beq (and_i hw).2
      rw [str_len] at hw
      exact hq _ _ kk (hr ▸ (whole_slice c1 c2 ((congrArg List.length hp).symm.trans hw)).symm ▸ den_str)
    · have hs : (Builtin.Str.strSliceIndices l u 1 t.length).filterMap ((⟨t.toArray⟩ : Str).cps[·]?) = (t.take (u.elim t.length Int.toNat)).drop (l.getD 0).toNat := by
        have := slice_str t l u c1 c2
        simpa using this
      rw [hp, hs]
      refine ⟨?_, hq _ _ (keeps_trans kk (keeps_toks _ _)) (hr ▸ den_str)⟩
      rw [str_len, ← lim_eq]
      exact Nat.le_trans (Nat.le_trans (Nat.le_of_eq List.length_drop) (Nat.sub_le _ _)) (Nat.le_trans (List.length_take_le' _ _) c3)
  | list t =>
    refine if_k hr fun hc hr => gives_of fun Q E hq => wpAny_Subscript_list_slice (evB ha I h1 fun v s1 k1 I1 p1 => evalPart_E hl I1 h2 fun vl s2 k2 I2 p2 => evalPart_E hh I2 h3 fun vu s3 k3 I3 p3 => ?_)
    obtain ⟨q, vs, rfl, hx, pl⟩ := denB_list (p1.grow (k2.trans k3).grow)
    have lp : vs.size = t.length := Array.length_toList.symm.trans pl.length
    refine ⟨q, vs, l, u, rfl, hx, by rw [lp, ← lim_eq]; exact hc, (partOf p2 h4).1, (partOf p3 h5).1, hq _ _ (keeps_trans (k1.trans (k2.trans k3)).1 (keeps_of' (Grow.trans (grow_push _ _) (grow_push _ _)))) ?_⟩
    rw [slicePick_plain, lp, ← Option.some.inj hr]
    generalize hs4 : ({ s3 with heap := s3.heap.push { cls := .type "slice", data := .fields #[vl, vu, .none] } } : Shared) = s4
    have g4 : Grow s3.heap s4.heap := hs4 ▸ grow_push _ _
    have := den_new_list (s := s4) (X := X) (((pl.mono g4.mono).drop (l.elim 0 (clipAt t.length))).take (u.elim t.length (clipAt t.length) - l.elim 0 (clipAt t.length))) (I3.live.grow g4).new
    have e4 : s4.heap.objs.size = s3.heap.objs.size + 1 := by rw [← hs4]; exact Heap.size_push _ _
    rw [e4, ← hs4] at this
    exact this
  | _ => exact nope hr

theorem snd_rev {v : Str} {p q q2 p2 pos : Pos} {k : Nat} (ha : Snd prog w mg mb hG A Φ nm env (.Name v p) ca) :
    Snd prog w mg mb hG A Φ nm env (.Subscript (.Name v p) (.Slice none none (some (.UnaryOp .USub (.Constant (.int 1) k q) q2)) p2) pos) (.rev ca) := by
  intro m X α σ s d I e
  refine mg1 e (fun _ => rfl) fun x h1 d' hr => atL_k hr fun t hx hr => if_k hr fun hc hr => gives_of fun Q E hq => PyProof.Rows.Subscript_ (evB ha I h1 fun v s1 k1 I1 p1 => ?_)
  refine wpAny_Slice (wpAny_evalPart_none (wpAny_evalPart_none (wpAny_evalPart_some (wpAny_UnaryOp (wpAny_Constant_int (neg_int ?_))))))
  obtain ⟨q, vs, rfl, hx, pl⟩ := denB_list (hx ▸ p1)
  have lp : vs.size = t.length := Array.length_toList.symm.trans pl.length
  generalize hob : ({ cls := .type "slice", data := .fields #[.none, .none, .int (-1) (s1.toks + 1)] } : Obj) = ob
  have hx' : (s1.heap.push ob).IsList q vs := hx.push _
  refine tail_any (T := "list") (ops := [.ref q, .ref s1.heap.objs.size]) (Heap.IsList.typeIs hx') slot_list_getitem.lookup ?_ rfl
  refine wpAny_getItem_list_slice hx' (hob ▸ Heap.IsSliceOf.new _ _ _ _) .none .none (.int _ _) (by simp) ?_ (by rw [lp, ← lim_eq]; exact hc)
  rw [krv_pick]
  refine hq _ _ (keeps_trans k1.1 (keeps_of (Grow.trans (grow_push _ ob) (grow_push _ _)))) ?_
  rw [← Option.some.inj hr]
  exact den_new_list (s := { s1 with heap := s1.heap.push ob }) (X := X) ((pl.mono (grow_push _ _).mono).reverse) (I1.live.grow (grow_push _ _)).new

end
end Mine
end

/-! S7 -/
section
open PySem PySem.W PyProof.Rows
set_option maxRecDepth 4000

namespace Mine

theorem at_one {x : Str} {c hi i : Nat} (hh : hi ≤ x.length) : StrLaws.At x ⟨#[c]⟩ hi i ↔ i + 1 ≤ hi ∧ x.cps.toList[i]? = some c := by
  have h := StrLaws.subAt_one x c i
  unfold StrLaws.At
  have e : (⟨#[c]⟩ : Str).length = 1 := rfl
  rw [e] at h ⊢
  constructor
  · rintro ⟨a, b⟩
    exact ⟨a, h.mp ⟨by omega, b⟩⟩
  · rintro ⟨a, b⟩
    exact ⟨a, (h.mpr b).2⟩

theorem occ_head_to (x y : Str) (lo hi limit : Nat) (hl : 1 ≤ limit) :
    (Builtin.Str.occurrences x y lo hi limit = [] ∧ ∀ i, lo ≤ i → ¬ StrLaws.At x y hi i) ∨
    ∃ i r, Builtin.Str.occurrences x y lo hi limit = i :: r ∧ lo ≤ i ∧ StrLaws.At x y hi i ∧ ∀ k, lo ≤ k → k < i → ¬ StrLaws.At x y hi k := by
  rw [StrLaws.occ_eq]
  rcases StrLaws.occ_first x y hi limit hl (List.range' lo (hi + 1 - lo)) lo (fun i hi => by have := List.mem_range'_1.mp hi; omega) with ⟨h0, hn⟩ | ⟨pre, a, post, e, h0, ha, hn⟩
  · refine .inl ⟨by rw [h0], fun i hlo hi => ?_⟩
    exact hn i (by have := hi.1; rw [List.mem_range'_1]; omega) hi
  · have hs := StrLaws.range'_split_from e
    refine .inr ⟨a, ((forIn (List.range' lo (hi + 1 - lo)) ((#[] : Array Nat), lo) (StrLaws.occBody x y hi limit)).run.fst.toList).tail, ?_, hs.1, ha, fun k hk0 hk => hn k (hs.2 k hk0 hk)⟩
    generalize (forIn (List.range' lo (hi + 1 - lo)) ((#[] : Array Nat), lo) (StrLaws.occBody x y hi limit)).run.fst = arr at h0
    have h1 : arr.toList[0]? = some a := by simpa using h0
    cases hL : arr.toList with
    | nil => rw [hL] at h1; cases h1
    | cons b t => rw [hL] at h1; simp at h1; rw [h1]; rfl

theorem findAt_spec (c : Nat) : ∀ (l : List Nat) (k n : Nat), (findAt c l k n = none ∧ ∀ i, i < n → l[i]? ≠ some c) ∨ ∃ i, findAt c l k n = some (k + i) ∧ i < n ∧ l[i]? = some c ∧ ∀ j, j < i → l[j]? ≠ some c
  | [], k, n => .inl ⟨by cases n <;> rfl, fun i _ => by simp⟩
  | a :: r, k, 0 => .inl ⟨rfl, fun i h => by omega⟩
  | a :: r, k, n + 1 => by
    unfold findAt
    by_cases h : a = c
    · rw [if_pos h]
      exact .inr ⟨0, rfl, by omega, by simp [h], fun j hj => by omega⟩
    · rw [if_neg h]
      rcases findAt_spec c r (k + 1) n with ⟨e, q⟩ | ⟨i, e, h1, h2, h3⟩
      · refine .inl ⟨e, fun i hi => ?_⟩
        cases i with
        | zero => simpa using h
        | succ i => simpa using q i (by omega)
      · refine .inr ⟨i + 1, by rw [e]; congr 1; omega, by omega, by simpa using h2, fun j hj => ?_⟩
        cases j with
        | zero => simpa using h
        | succ j => simpa using h3 j (by omega)

theorem find_eq (l : List Nat) (c k j : Nat) (hj : j ≤ l.length) :
    (match Builtin.Str.occurrences ⟨l.toArray⟩ ⟨#[c]⟩ k j 1 with | i :: _ => (i : Int) | [] => -1) = (match findAt c (l.drop k) k (j - k) with | some i => (i : Int) | none => -1) := by
  have hl : j ≤ (⟨l.toArray⟩ : Str).length := by rw [str_len]; exact hj
  rcases occ_head_to ⟨l.toArray⟩ ⟨#[c]⟩ k j 1 (Nat.le_refl 1) with ⟨e, q⟩ | ⟨i, r, e, h1, h2, h3⟩ <;> rw [e]
  · rcases findAt_spec c (l.drop k) k (j - k) with ⟨e', _⟩ | ⟨i, e', a, b, _⟩ <;> rw [e']
    exfalso
    rw [List.getElem?_drop] at b
    exact q (k + i) (by omega) ((at_one hl).mpr ⟨by omega, by simpa using b⟩)
  · have z := (at_one hl).mp h2
    have z2 : l[i]? = some c := by simpa using z.2
    rcases findAt_spec c (l.drop k) k (j - k) with ⟨e', q⟩ | ⟨i', e', a, b, d⟩ <;> rw [e']
    · exfalso
      exact q (i - k) (by omega) (by rw [List.getElem?_drop]; have : k + (i - k) = i := by omega
                                     rw [this]; exact z2)
    · rw [List.getElem?_drop] at b
      have h4 : ¬ (k + i' < i) := fun hh => h3 (k + i') (by omega) hh ((at_one hl).mpr ⟨by omega, by simpa using b⟩)
      have h5 : ¬ (i < k + i') := fun hh => d (i - k) (by omega) (by rw [List.getElem?_drop]; have : k + (i - k) = i := by omega
                                                                     rw [this]; exact z2)
      have : k + i' = i := by omega
      rw [this]

theorem gives_find4 (x y : Str) (i j : Int) (t u v z : Tok) :
    PySem.Gives (Builtin.«str.find» ⟨[.str x t, .str y u, .int i v, .int j z], []⟩) (.int (match Builtin.Str.occurrences x y (fromIndex x.length i) (min (fromIndex x.length j) x.length) 1 with | k :: _ => (k : Int) | [] => -1)) := by
  show PySem.Gives (match Builtin.Str.occurrences x y (fromIndex x.length i) (min (fromIndex x.length j) x.length) 1 with | k :: _ => retInt k | [] => (do rule "str.find.not-found"; retInt (-1))) _
  cases Builtin.Str.occurrences x y (fromIndex x.length i) (min (fromIndex x.length j) x.length) 1 with
  | nil => exact .rule (.of_eq rfl)
  | cons k _ => exact .of_eq rfl

section
variable {prog : Program} {w : World} {A : Around} {s : Shared} {X : Addr → Prop} {mg mb : Str → Option Value} {hG : Heap} {env : Env} {Φ : Str → List D → Option D} {nm : Nat → Str}

theorem fromIndex_pos {n : Nat} {i : Int} (h : 0 ≤ i) : fromIndex n i = i.toNat := by
  unfold fromIndex
  rw [if_neg (Int.not_lt.mpr h), Int.max_eq_right h]

theorem find_sound {a k j d : D} {c : Nat} {v u z : Value} {t : Tok} (da : Den s.heap X a v) (dk : Den s.heap X k u) (dj : Den s.heap X j z) (e : findD a c k j = some d) :
    Gives (model prog w) A (call (.builtin "str.find") [v, .str ⟨#[c]⟩ t, u, z]) X d s := by
  refine gives_of fun Q E h => ?_
  cases a with
  | str l => cases k with
    | int i => cases j with
      | int j =>
        obtain ⟨t1, rfl⟩ := den_str_inv da
        obtain ⟨t2, rfl⟩ := den_int_inv dk
        obtain ⟨t3, rfl⟩ := den_int_inv dj
        refine if_k e fun hc e => ?_
        refine call_gives PySem.F.slot_str_find (typeIs_str _ _ _) PySem.F.entry_str_find (PySem.F.args_str_find_4 _ _ _ _) (gives_find4 _ _ _ _ _ _ _ _) ?_
        have hj : j.toNat ≤ l.length := Int.toNat_le.mpr hc.2.2.1
        rw [fromIndex_pos hc.1, fromIndex_pos hc.2.1, str_len, Nat.min_eq_left hj, find_eq _ _ _ _ hj]
        exact h _ _ (keeps_toks _ _) (Option.some.inj e ▸ den_int)
      | _ => exact nope e
    | _ => exact nope e
  | _ => exact nope e

theorem strs_k {l : List Nat} {ds : List D} {ls : List (List Nat)} {G : Prop} (e : allStr (.str l :: ds) = some ls) (k : ∀ x, allStr ds = some x → l :: x = ls → G) : G := by
  replace e : (match allStr ds with | some q => some (l :: q) | none => none) = some ls := e
  cases h : allStr ds with
  | none => rw [h] at e; exact nope e
  | some x => rw [h] at e; exact k x h (Option.some.inj e)

theorem join_strs {h : Heap} {X : Addr → Prop} : ∀ {ds : List D} {vs : List Value} {ls : List (List Nat)}, DenL h X ds vs → allStr ds = some ls → StrsAre vs (ls.map fun l => (⟨l.toArray⟩ : Str))
  | [], vs, ls, q, e => by
    rw [q.nil_inv, ← Option.some.inj (show some [] = some ls from e)]
    exact .nil
  | d :: ds, vs, ls, q, e => by
    obtain ⟨v, r, rfl, p, q'⟩ := q.cons_inv
    cases d with
    | str l =>
      obtain ⟨t, rfl⟩ := den_str_inv p
      refine strs_k e fun x h1 e => ?_
      rw [← e]
      exact .cons _ t (join_strs (X := X) q' h1)
    | _ => exact nope e

theorem join_eq (sep : List Nat) : ∀ ls : List (List Nat), Txt.join ⟨sep.toArray⟩ (ls.map fun l => (⟨l.toArray⟩ : Str)) = ⟨(jn sep ls).toArray⟩ := by
  intro ls
  show Builtin.Str.glued _ _ = _
  rw [StrLaws.glued_eq_join]
  induction ls with
  | nil => rfl
  | cons x r ih =>
    cases r with
    | nil => rfl
    | cons y r =>
      show (⟨x.toArray⟩ : Str) ++ ⟨sep.toArray⟩ ++ Str.join ⟨sep.toArray⟩ ((y :: r).map fun l => (⟨l.toArray⟩ : Str)) = _
      rw [ih, str_add, str_add]
      rfl

theorem join_k {sep : List Nat} {l : List D} {d : D} {G : Prop} (e : joinD sep (.list l) = some d) (k : ∀ ls, allStr l = some ls → (ls.map List.length).sum + ls.length * sep.length ≤ lim → .str (jn sep ls) = d → G) : G := by
  replace e : (match allStr l with | some ls => if (ls.map List.length).sum + ls.length * sep.length ≤ lim then some (D.str (jn sep ls)) else none | none => none) = some d := e
  cases h : allStr l with
  | none => rw [h] at e; exact nope e
  | some ls => rw [h] at e; exact if_k e fun hb e => k ls h hb (Option.some.inj e)

theorem join_sound {sep : List Nat} {a d : D} {v : Value} {t : Tok} (da : DenB s.heap X a v) (e : joinD sep a = some d) : Gives (model prog w) A (call (.builtin "str.join") [.str ⟨sep.toArray⟩ t, v]) X d s := by
  refine gives_of fun Q E h => ?_
  cases a with
  | list l =>
    obtain ⟨x, vs, rfl, hx, p⟩ := denB_list da
    refine join_k e fun ls h1 hb e => PyProof.Rows.join_list hx (join_strs p h1) ?_ fun t' k => ?_
    · rw [List.map_map, List.length_map, str_len, show ((fun x : Str => x.length) ∘ fun l : List Nat => (⟨l.toArray⟩ : Str)) = List.length from funext str_len]
      exact hb
    · rw [join_eq]
      exact h _ _ (keeps_toks _ _) (e ▸ den_str)
  | _ => exact nope e

variable {a b c : Expr} {ca cb cc : E}

theorem eval_glob {f : Str} {pos : Pos} {v : Value} {Q : Value → Shared → Prop} {E : Value → Shared → Prop} (hE : EnvOk env) (hd : (f == ("__debug__" : Str)) = false) (hk : env.kindOf f = some .globalImplicit)
    (B : Bas mg mb hG s.heap) (hv : mg f = some v) (h : Q v s) : wpAny (model prog w) A (eval (.Name f pos) env) Q E s :=
  Calls.Name_function_global hE.1 hk (Calls.loadGlobal_global (by rw [hE.2.1]; exact B.g) hv h) hd
theorem eval_built {f : Str} {pos : Pos} {v : Value} {Q : Value → Shared → Prop} {E : Value → Shared → Prop} (hE : EnvOk env) (hd : (f == ("__debug__" : Str)) = false) (hk : env.kindOf f = some .globalImplicit)
    (B : Bas mg mb hG s.heap) (hv : mg f = none ∧ mb f = some v) (h : Q v s) : wpAny (model prog w) A (eval (.Name f pos) env) Q E s :=
  Calls.Name_function_global hE.1 hk (Calls.loadGlobal_builtin (by rw [hE.2.1]; exact B.g) hv.1 (by rw [hE.2.2]; exact B.b) hv.2 h) hd

theorem plain_any {l : List Expr} {pos : Pos} (h : ∀ e ∈ l, plainE e = true) : (backTo pos (starEach l env)).any (·.1) = false := by
  induction l with
  | nil => rfl
  | cons e r ih =>
    rw [starEach_plain (h e (.head _))]
    exact ih fun e he => h e (.tail _ he)

theorem len_snd {p pos : Pos} (pa : plainE a = true) (hE : EnvOk env) (hk : env.kindOf "len" = some .globalImplicit) (hb : Built mg mb) (ha : Snd prog w mg mb hG A Φ nm env a ca) :
    Snd prog w mg mb hG A Φ nm env (.Call (.Name "len" p) [a] [] pos) (.len ca) :=
  fun _ _ _ _ _ _ I e => mg1 e (fun _ => rfl) fun x h1 d' hr Q E hq => Call_ (eval_built hE (by decide +kernel) hk I.bas hb.len
    (callWith_builtin1 (wpAny_items_cons (evB ha I h1 fun v s1 k1 I1 p1 => wpAny_items_nil (len_sound p1 hr _ _ fun r s2 k2 p2 => hq r s2 (k1.trans k2) p2)) (starEach_plain pa)) (starEach_plain pa) rfl)) rfl

theorem chr_snd {p pos : Pos} (pa : plainE a = true) (hE : EnvOk env) (hk : env.kindOf "chr" = some .globalImplicit) (hb : Built mg mb) (ha : Snd prog w mg mb hG A Φ nm env a ca) :
    Snd prog w mg mb hG A Φ nm env (.Call (.Name "chr" p) [a] [] pos) (.chr ca) :=
  fun _ _ _ _ _ _ I e => mg1 e (fun _ => rfl) fun x h1 d' hr Q E hq => Call_ (eval_built hE (by decide +kernel) hk I.bas hb.chr
    (callWith_builtin1 (wpAny_items_cons (ev1 ha I h1 fun v s1 k1 I1 p1 => wpAny_items_nil (chr_sound p1 hr _ _ fun r s2 k2 p2 => hq r s2 (k1.trans k2) p2)) (starEach_plain pa)) (starEach_plain pa) rfl)) rfl

/-- the call itself -/
theorem call_spec {k : Nat} {f : Str} {ds : List D} {vs : List Value} {d : D} {fa : Addr} (S : FSpec prog w mg mb hG k f (Φ f)) (hA : OkA k A) (e : Φ f ds = some d) (hf : mg f = some (.ref fa)) {α σ} (I : EInv mg mb hG env nm X α σ s) (q : DenL s.heap X ds vs)
    {Q : Value → Shared → Prop} {E : Value → Shared → Prop} (h : ∀ v s', Kp s s' → Den s'.heap X d v → Q v s') :
    (∃ o fd, s.heap.get? fa = some o ∧ o.data = .func fd) ∧ wpAny (model prog w) A (call (.ref fa) vs) Q E s := by
  obtain ⟨a, ha, z⟩ := S ds d e
  rw [hf] at ha
  cases ha
  obtain ⟨o, fd, ho, hd, hc⟩ := z A s X vs hA I.bas I.tok I.live q
  refine ⟨⟨o, fd, ho, hd⟩, wpAny_call (codeAny_mono hc fun r s' ⟨v, hr, kp, p⟩ => ?_)⟩
  subst hr
  exact h v s' kp p


theorem fnAt_of {h : Heap} {fa : Addr} (x : ∃ o fd, h.get? fa = some o ∧ o.data = .func fd) : FnAt fa h := by
  obtain ⟨⟨c, dd, dt, sl⟩, fd, ho, hd⟩ := x
  simp only at hd
  subst hd
  exact ⟨c, dd, fd, sl, ho⟩

/-- a call of a def of the text, its arguments evaluated -/
theorem callWith_fn {pos : Pos} {fa : Addr} {e : Expr} {rest : List Expr} {Q : Value → Shared → Prop} {E : Value → Shared → Prop} (pe : ∀ x ∈ e :: rest, plainE x = true)
    (h : wpAny (model prog w) A (spliced (backTo pos (starEach (e :: rest) env))) (fun vs s₁ => (∃ o fd, s₁.heap.get? fa = some o ∧ o.data = .func fd) ∧ wpAny (model prog w) A (call (.ref fa) vs) Q E s₁) E s) :
    wpAny (model prog w) A (callWith pos (.ref fa) [] (backTo pos (starEach (e :: rest) env)) []) Q E s := by
  have hplain := plain_any (env := env) (pos := pos) fun x hx => pe x (.tail _ hx)
  have h' := wpAny_mono h (fun vs s₁ (z : _ ∧ _) => And.intro (fnAt_of z.1) z.2) fun _ _ x => x
  have he := starEach_plain (env := env) (r := rest) (pe e (.head _))
  rw [he] at h' ⊢
  exact callWith_of (by show ((false || (backTo pos (starEach rest env)).any (·.1)) || false) = false; rw [hplain]; rfl) keeps_F (Calls.evalArgs_plain h')

theorem pe1 (pa : plainE a = true) : ∀ x ∈ [a], plainE x = true := List.forall_mem_cons.mpr ⟨pa, fun _ h => nomatch h⟩
theorem pe2 (pa : plainE a = true) (pb : plainE b = true) : ∀ x ∈ [a, b], plainE x = true := List.forall_mem_cons.mpr ⟨pa, pe1 pb⟩
theorem pe3 (pa : plainE a = true) (pb : plainE b = true) (pc : plainE c = true) : ∀ x ∈ [a, b, c], plainE x = true := List.forall_mem_cons.mpr ⟨pa, pe2 pb pc⟩

theorem snd_call {k : Nat} {f : Str} {p pos : Pos} {args : List Expr} {e : Expr} {rest : List Expr} {X α σ s} {ds : List D} {d : D} (he : args = e :: rest) (pe : ∀ x ∈ args, plainE x = true) (hE : EnvOk env) (hd : (f == ("__debug__" : Str)) = false) (hk : env.kindOf f = some .globalImplicit)
    (S : FSpec prog w mg mb hG k f (Φ f)) (hA : OkA k A) (I : EInv mg mb hG env nm X α σ s) (hr : Φ f ds = some d)
    (hi : ∀ {Q : List Value → Shared → Prop} {E : Value → Shared → Prop}, (∀ vs s', Kp s s' → EInv mg mb hG env nm X α σ s' → DenL s'.heap X ds vs → Q vs s') → wpAny (model prog w) A (spliced (backTo pos (starEach args env))) Q E s) :
    Gives (model prog w) A (eval (.Call (.Name f p) args [] pos) env) X d s := by
  subst he
  obtain ⟨fa, hf, _⟩ := S _ _ hr
  exact fun Q E hq => Call_ (eval_glob hE hd hk I.bas hf (callWith_fn pe (hi fun vs s1 k1 I1 p1 => call_spec S hA hr hf I1 p1 fun r s2 k2 p2 => hq r s2 (k1.trans k2) p2))) rfl

section
variable {k : Nat} {f : Str} {p pos : Pos} (pa : plainE a = true) (pb : plainE b = true) (pc : plainE c = true) (hE : EnvOk env) (hd : (f == ("__debug__" : Str)) = false) (hk : env.kindOf f = some .globalImplicit) (S : FSpec prog w mg mb hG k f (Φ f)) (hA : OkA k A)
  (ha : Snd prog w mg mb hG A Φ nm env a ca) (hb : Snd prog w mg mb hG A Φ nm env b cb) (hc : Snd prog w mg mb hG A Φ nm env c cc)
include pa hE hd hk S hA ha in
theorem snd_call1 : Snd prog w mg mb hG A Φ nm env (.Call (.Name f p) [a] [] pos) (.call1 f ca) :=
  fun _ _ _ _ _ _ I e => mg1 e (fun _ => rfl) fun x h1 d' hr => snd_call rfl (pe1 pa) hE hd hk S hA I hr fun h => items1 pa ha I h1 fun v s1 k1 I1 p1 => h _ s1 k1 I1 (.cons p1 .nil)
include pa pb hE hd hk S hA ha hb in
theorem snd_call2 : Snd prog w mg mb hG A Φ nm env (.Call (.Name f p) [a, b] [] pos) (.call2 f ca cb) :=
  fun _ _ _ _ _ _ I e => mg2 e (fun _ => rfl) fun x y h1 h2 d' hr => snd_call rfl (pe2 pa pb) hE hd hk S hA I hr fun h => items2 pa pb ha hb I h1 h2 fun v u s1 k1 I1 p1 p2 => h _ s1 k1 I1 (.cons p1 (.cons p2 .nil))
include pa pb pc hE hd hk S hA ha hb hc in
theorem snd_call3 : Snd prog w mg mb hG A Φ nm env (.Call (.Name f p) [a, b, c] [] pos) (.call3 f ca cb cc) :=
  fun _ _ _ _ _ _ I e => mg3 e (fun _ => rfl) fun x y z h1 h2 h3 d' hr => snd_call rfl (pe3 pa pb pc) hE hd hk S hA I hr fun h => items3 pa pb pc ha hb hc I h1 h2 h3 fun v u t s1 k1 I1 p1 p2 p3 => h _ s1 k1 I1 (.cons p1 (.cons p2 (.cons p3 .nil)))
end

theorem few_ok {l : List Expr} {pos : Pos} (h : ∀ e ∈ l, plainE e = true) (hl : l.length < 30) :
    ((backTo pos (starEach l env)).all (fun x => !x.1) && (backToKw pos (keywordEach [] env)).all (fun x => x.1.isSome)
      && decide (l.length + ([] : List Keyword).length + (if ([] : List Keyword).isEmpty then 0 else 1) < 30)) = true := by
  have h1 := plain_any (env := env) (pos := pos) h
  have h2 : (backTo pos (starEach l env)).all (fun x => !x.1) = true := by
    rw [List.all_eq_true]
    intro x hx
    have := List.any_eq_false.mp h1 x hx
    simpa using this
  rw [h2]
  exact decide_eq_true (show l.length + 0 + 0 < 30 from hl)

/-- a method of a str -/
theorem str_method {o : Expr} {n : Str} {ap pos : Pos} {args : List Expr} {id : String} (slot : Slot "str" n id) (ty : typeOf (.builtin id) = pure (.type "method_descriptor")) (hbase : attributeBase o n env (eval o env) = eval o env)
    (pe : ∀ e ∈ args, plainE e = true) (hl : args.length < 30) (hline : (ap.endLine == pos.line) = true) {Q : Value → Shared → Prop} {E : Value → Shared → Prop}
    (h : wpAny (model prog w) A (eval o env) (fun ov s₁ => (∃ x t, ov = .str x t) ∧ wpAny (model prog w) A (callWith pos (.builtin id) [ov] (backTo pos (starEach args env)) []) Q E s₁) E s) :
    wpAny (model prog w) A (eval (.Call (.Attribute o n ap) args [] pos) env) Q E s := by
  refine wpAny_Call_method_lateS hbase (few_ok pe hl) hline (wpAny_mono h (fun ov s₁ ⟨⟨x, t, e⟩, hc⟩ => ?_) fun _ _ x => x)
  subst e
  exact ⟨"str", id, PySem.F.plainAttrs_str, slot, ty, typeIs_str _ _ _, fun a e => (nomatch e), hc⟩

end
end Mine
end

/-! S8 -/
section
open PySem PySem.W PyProof.Rows
set_option maxRecDepth 4000

namespace Mine
section
variable {prog : Program} {w : World} {A : Around} {s : Shared} {X : Addr → Prop} {mg mb : Str → Option Value} {hG : Heap} {env : Env} {Φ : Str → List D → Option D} {nm : Nat → Str}
variable {a b c : Expr} {ca cb cc : E}

theorem callWith_b {id : String} {first : List Value} {e : Expr} {r : List Expr} {pos : Pos} {Q : Value → Shared → Prop} {E : Value → Shared → Prop} (pe : ∀ x ∈ e :: r, plainE x = true)
    (h : wpAny (model prog w) A (spliced (backTo pos (starEach (e :: r) env))) (fun vs s₁ => wpAny (model prog w) A (call (.builtin id) (first ++ vs)) Q E s₁) E s) :
    wpAny (model prog w) A (callWith pos (.builtin id) first (backTo pos (starEach (e :: r) env)) []) Q E s := by
  have hplain := plain_any (env := env) (pos := pos) fun x hx => pe x (.tail _ hx)
  have he := starEach_plain (env := env) (r := r) (pe e (.head _))
  rw [he] at h ⊢
  exact Calls.callWith_builtin (by show (false || (backTo pos (starEach r env)).any (·.1)) = false; rw [hplain]; rfl) (Calls.evalArgs_plain h)

theorem repl_sound {l : List Nat} {y z : Str} {t u v : Tok} (hu : u ≠ 0) (hv : v ≠ 0) (huv : u ≠ v) (hyz : y ≠ z) (hx : l.length ≤ 1048576) (hz : z.length ≤ 14) :
    Gives (model prog w) A (call (.builtin "str.replace") [.str ⟨l.toArray⟩ t, .str y u, .str z v]) X (.str (Txt.replace ⟨l.toArray⟩ y z).cps.toList) s := by
  refine gives_of fun Q E h => SC.replaceW hu hv huv (by rw [beq_eq_false_iff_ne]; exact hyz) (by rw [str_len]; exact hx) hz fun t' n => h _ _ (keeps_toks _ n) ?_
  have : (⟨(Txt.replace ⟨l.toArray⟩ y z).cps.toList.toArray⟩ : Str) = Txt.replace ⟨l.toArray⟩ y z := rfl
  rw [← this]
  exact den_str

theorem snd_join {x : Str} {k : Nat} {p ap pos : Pos} (hl : (ap.endLine == pos.line) = true) (pa : plainE a = true) (ha : Snd prog w mg mb hG A Φ nm env a ca) :
    Snd prog w mg mb hG A Φ nm env (.Call (.Attribute (.Constant (.str x) k p) "join" ap) [a] [] pos) (.join (strL x) ca) :=
  fun _ _ _ _ s _ I e => mg1 e (fun _ => rfl) fun y h1 d' hr Q E hq => str_method PySem.F.slot_str_join PySem.F.type_str_join rfl (pe1 pa) (Nat.le_of_ble_eq_true rfl) hl (wpAny_Constant_str ⟨⟨_, _, rfl⟩,
    callWith_b (pe1 pa) (wpAny_items_cons (evB ha (I.kp (kp_toks s 1)) h1 fun v s1 k1 I1 p1 => wpAny_items_nil (strL_eq x ▸ join_sound (prog := prog) (w := w) (A := A) (t := s.toks) p1 hr _ _ fun r s2 k2 p2 => hq r s2 ((kp_toks s 1).trans (k1.trans k2)) p2)) (starEach_plain pa))⟩)

theorem repl_k {l y z : List Nat} {d : D} {G : Prop} (e : replD (.str l) y z = some d) (k : l.length ≤ 1048576 → z.length ≤ 14 → y ≠ z → .str (Txt.replace ⟨l.toArray⟩ ⟨y.toArray⟩ ⟨z.toArray⟩).cps.toList = d → G) : G :=
  if_k e fun h e => k h.1 h.2.1 h.2.2 (Option.some.inj e)

theorem snd_repl {v : Str} {p ap pos : Pos} {y z : Str} {k1 k2 : Nat} {q1 q2 : Pos} (hl : (ap.endLine == pos.line) = true) (ha : Snd prog w mg mb hG A Φ nm env (.Name v p) ca) :
    Snd prog w mg mb hG A Φ nm env (.Call (.Attribute (.Name v p) "replace" ap) [.Constant (.str y) k1 q1, .Constant (.str z) k2 q2] [] pos) (.repl ca (strL y) (strL z)) := by
  intro m X α σ s d I e
  refine mg1 e (fun _ => rfl) fun x h1 d' hr => ?_
  cases x with
  | str l =>
    refine repl_k hr fun c1 c2 c3 hr Q E hq => str_method PySem.F.slot_str_replace PySem.F.type_str_replace rfl (pe2 rfl rfl) (Nat.le_of_ble_eq_true rfl) hl (ev1 ha I h1 fun ov s1 kk1 I1 p1 => ?_)
    obtain ⟨t1, rfl⟩ := den_str_inv p1
    refine ⟨⟨_, _, rfl⟩, callWith_b (pe2 rfl rfl) (wpAny_items_cons (wpAny_Constant_str (wpAny_items_cons (wpAny_Constant_str (wpAny_items_nil ?_)) (starEach_plain rfl))) (starEach_plain rfl))⟩
    refine repl_sound (y := y) (z := z) (s := { s1 with toks := s1.toks + 1 + 1 }) (X := X) (Nat.ne_of_gt I1.tok) (Nat.succ_ne_zero _) (Nat.ne_of_lt (Nat.lt_succ_self _)) (fun h => c3 (congrArg strL h)) c1 c2 _ _ fun v s2 k2 p2 => hq v s2 (kk1.trans ((kp_toks s1 2).trans k2)) ?_
    rw [strL_eq, strL_eq] at hr
    exact hr ▸ p2
  | _ => exact nope hr

theorem find_str {x k j d : D} {c : Nat} (e : findD x c k j = some d) : ∃ l, x = .str l := by
  cases x with
  | str l => exact ⟨l, rfl⟩
  | _ => exact nope e

theorem snd_find {v : Str} {p ap pos : Pos} {y : Str} {cc : Nat} {k1 : Nat} {q1 : Pos} (hl : (ap.endLine == pos.line) = true) (hy : strL y = [cc]) (pb : plainE b = true) (pc : plainE c = true) (ha : Snd prog w mg mb hG A Φ nm env (.Name v p) ca)
    {cj : E} (hb : Snd prog w mg mb hG A Φ nm env b cb) (hc : Snd prog w mg mb hG A Φ nm env c cj) :
    Snd prog w mg mb hG A Φ nm env (.Call (.Attribute (.Name v p) "find" ap) [.Constant (.str y) k1 q1, b, c] [] pos) (.find ca cc cb cj) := by
  intro m X α σ s d I e
  have hy : (⟨#[cc]⟩ : Str) = y := (congrArg (fun l : List Nat => (⟨l.toArray⟩ : Str)) hy).symm.trans (strL_eq y)
  refine mg3 e (fun _ => rfl) fun x y' z h1 h2 h3 d' hr Q E hq => str_method PySem.F.slot_str_find PySem.F.type_str_find rfl (pe3 rfl pb pc) (Nat.le_of_ble_eq_true rfl) hl (ev1 ha I h1 fun ov s1 kk1 I1 p1 => ?_)
  obtain ⟨l, rfl⟩ := find_str hr
  obtain ⟨t, rfl⟩ := den_str_inv p1
  exact ⟨⟨_, _, rfl⟩, callWith_b (pe3 rfl pb pc) (wpAny_items_cons (wpAny_Constant_str (items2 pb pc hb hc (I1.kp (kp_toks s1 1)) h2 h3 fun v u s2 k2 I2 p2 p3 =>
    hy ▸ find_sound (prog := prog) (w := w) (A := A) (t := s1.toks) ((p1.mono (kp_toks s1 1).grow.mono).mono k2.grow.mono) p2 p3 hr _ _ fun r s3 k3 p3 => hq r s3 (kk1.trans ((kp_toks s1 1).trans (k2.trans k3))) p3)) (starEach_plain rfl))⟩

theorem cat_k {a b c : List Nat} {d : D} {G : Prop} (e : catD (.str a) (.str b) (.str c) = some d) (k : a.length + b.length + c.length ≤ lim → .str (a ++ b ++ c) = d → G) : G := if_k e fun h e => k h (Option.some.inj e)
theorem len_strL (x : Str) : (strL x).length = x.length := Array.length_toList
theorem strL_add (x y : Str) : strL (x ++ y) = strL x ++ strL y := by
  have := str_add (strL x) (strL y)
  rw [strL_eq, strL_eq] at this
  rw [this]
  simp [strL]
theorem empty_add (t : Str) : Str.empty ++ t = t := by
  have := str_add [] (strL t)
  rw [strL_eq, List.nil_append, strL_eq] at this
  exact this

theorem snd_cat3 {x y : Str} {v : Str} {k1 k2 : Nat} {q0 q1 q2 q3 pos : Pos} (ha : Snd prog w mg mb hG A Φ nm env (.Name v q0) ca) :
    Snd prog w mg mb hG A Φ nm env (.JoinedStr [.Constant (.str x) k1 q1, .FormattedValue (.Name v q0) (-1) none q3, .Constant (.str y) k2 q2] pos) (.cat3 (.str (strL x)) ca (.str (strL y))) := by
  intro m X α σ s d I e
  refine mg3 (f := catD) e (fun _ => rfl) fun x' z y' e1 h1 e2 d' hr Q E hq => ?_
  rw [← Option.some.inj (show some (D.str (strL x)) = some x' from e1), ← Option.some.inj (show some (D.str (strL y)) = some y' from e2)] at hr
  cases z with
  | str l =>
    refine cat_k hr fun hb hr => ?_
    have l3 : (x ++ ⟨l.toArray⟩ ++ y).length ≤ sizeLine := by rw [← len_strL, strL_add, strL_add, List.length_append, List.length_append, ← lim_eq]; exact hb
    have l2 : (x ++ ⟨l.toArray⟩).length ≤ sizeLine := by rw [← len_strL, strL_add, List.length_append, ← lim_eq]; exact Nat.le_trans (Nat.le_add_right _ _) hb
    have l1 : x.length ≤ sizeLine := by rw [← len_strL, ← lim_eq]; exact Nat.le_trans (Nat.le_trans (Nat.le_add_right _ _) (Nat.le_add_right _ _)) hb
    have ll : (⟨l.toArray⟩ : Str).length ≤ sizeLine := by rw [str_len, ← lim_eq]; exact Nat.le_trans (Nat.le_trans (Nat.le_add_left _ _) (Nat.le_add_right _ _)) hb
    have hd : ∀ {h : Heap} {t : Tok}, Den h X d' (.str (x ++ ⟨l.toArray⟩ ++ y) t) := fun {h t} => by
      rw [← strL_eq (x ++ ⟨l.toArray⟩ ++ y), strL_add, strL_add, ← hr]; exact den_str
    refine wpAny_JoinedStr (wpAny_Constant_str ⟨_, _, rfl, (empty_add x).symm ▸ l1, ?_⟩)
    rw [empty_add]
    refine wpAny_FormattedValue_plain (ev1 ha (I.kp (kp_toks s 1)) h1 fun u s1 k1 I1 p1 => ?_)
    obtain ⟨t1, rfl⟩ := den_str_inv p1
    have fin : ∀ (t : Tok) (s2 : Shared), Kp s1 s2 → ∃ y' t', (Value.str ⟨l.toArray⟩ t) = .str y' t' ∧ (x ++ y').length ≤ sizeLine ∧ Joins (model prog w) A E (evalEach [.Constant (.str y) k2 q2] env) (x ++ y') (fun out s₁ => out.length ≤ sizeLine ∧ Q (.str out s₁.toks) { s₁ with toks := s₁.toks + 1 }) s2 :=
      fun t s2 hk => ⟨_, _, rfl, l2, wpAny_Constant_str ⟨_, _, rfl, l3, l3, hq _ _ ((kp_toks s 1).trans (k1.trans (hk.trans (kp_toks s2 2)))) hd⟩⟩
    exact wpAny_formatField_str (fin _ _ (kp_refl _)) (fin _ _ (kp_toks s1 1)) ll
  | _ => exact nope hr

end
end Mine
end

/-! S9 -/
section
open PySem PySem.W PyProof.Rows
set_option maxRecDepth 4000

namespace Mine

theorem Den.scal {h h' : Heap} {X X' : Addr → Prop} {d : D} {v : Value} (s : scal d = true) (x : Den h X d v) : Den h' X' d v := by
  cases d with
  | none => exact x
  | bool => exact x
  | int => exact x
  | str => exact x
  | _ => exact Bool.noConfusion s

section
variable {g : D → Option (Option D)} {d : D} {l r : List D} {o : Option D}
theorem coll_hd (e : coll g (d :: l) = some r) : ∃ o, g d = some o := by
  replace e : (match g d with | some (some x) => if scal x then (match coll g l with | some q => some (x :: q) | none => none) else none | some none => coll g l | none => none) = some r := e
  cases h : g d with
  | none => rw [h] at e; exact nope e
  | some o => exact ⟨o, rfl⟩
theorem coll_none (h : g d = some none) (e : coll g (d :: l) = some r) : coll g l = some r := by
  replace e : (match g d with | some (some x) => if scal x then (match coll g l with | some q => some (x :: q) | none => none) else none | some none => coll g l | none => none) = some r := e
  rw [h] at e; exact e
theorem coll_some {x : D} (h : g d = some (some x)) (e : coll g (d :: l) = some r) : scal x = true ∧ ∃ q, coll g l = some q ∧ x :: q = r := by
  replace e : (match g d with | some (some x) => if scal x then (match coll g l with | some q => some (x :: q) | none => none) else none | some none => coll g l | none => none) = some r := e
  rw [h] at e
  refine if_k e fun hs e => ⟨hs, ?_⟩
  cases h2 : coll g l with
  | none => rw [h2] at e; exact nope e
  | some q => rw [h2] at e; exact ⟨q, rfl, Option.some.inj e⟩
end

theorem coll_scal {g} : ∀ {l r}, coll g l = some r → ∀ d ∈ r, scal d = true
  | [], r, e, d, hd => nomatch (Option.some.inj e ▸ hd : d ∈ ([] : List D))
  | a :: l, r, e, d, hd => by
    obtain ⟨o, ho⟩ := coll_hd e
    cases o with
    | none => exact coll_scal (coll_none ho e) d hd
    | some x =>
      obtain ⟨hs, q, hq, rfl⟩ := coll_some ho e
      cases hd with
      | head => exact hs
      | tail _ hd => exact coll_scal hq d hd

theorem DenL.scal {h h' : Heap} {X X' : Addr → Prop} : ∀ {ds : List D} {vs : List Value}, (∀ d ∈ ds, scal d = true) → DenL h X ds vs → DenL h' X' ds vs
  | [], vs, _, x => by rw [x.nil_inv]; exact .nil
  | d :: ds, vs, s, x => by
    obtain ⟨v, r, rfl, p, q⟩ := x.cons_inv
    exact .cons (p.scal (s d (.head _))) (DenL.scal (fun d hd => s d (.tail _ hd)) q)

/-- what is iterated over -/
structure Src (prog : Program) (w : World) (A : Around) (h0 : Heap) (X : Addr → Prop) (I : Addr) (ds : List D) (fp : List Addr) (P : Nat → Value → Prop) (St : Nat → Heap → Prop) : Prop where
  W : Walks prog w A I fp [I] ds.length P St
  val : ∀ i v d h, P i v → ds[i]? = some d → Grow h0 h → Den h X d v
  new : h0.get? I = none
  old : ∀ b ∈ fp, b = I ∨ ∃ o, h0.get? b = some o

section
variable {prog : Program} {w : World} {A : Around} {mg mb : Str → Option Value} {hG : Heap} {env : Env} {Φ : Str → List D → Option D} {nm : Nat → Str}

theorem get_new (h : Heap) : h.get? h.objs.size = none := by
  cases e : h.get? h.objs.size with
  | none => rfl
  | some o => exact absurd (Heap.lt_size e) (Nat.lt_irrefl _)
theorem get_ge {h : Heap} {a : Addr} (x : h.objs.size ≤ a) : h.get? a = none := by
  cases e : h.get? a with
  | none => rfl
  | some o => exact absurd (Heap.lt_size e) (Nat.not_lt.mpr x)
theorem src_list {a : Addr} {vs : Array Value} {ds : List D} {X : Addr → Prop} {s : Shared} (hh : A.handled = none) (hl : s.heap.IsList a vs) (q : DenL s.heap X ds vs.toList) {Q : Value → Shared → Prop} {E : Value → Shared → Prop}
    (h : ∀ I fp P St s', Kp s s' → Src prog w A s.heap X I ds fp P St → St 0 s'.heap → I < s'.heap.objs.size → s.heap.objs.size ≤ I → (∀ i h', St i h' → h'.IsListIter I a i) → (∀ b ∈ fp, b = I ∨ b = a) → Q (.ref I) s') : wpAny (model prog w) A (pyIter (.ref a)) Q E s := by
  have hne : a ≠ s.heap.objs.size := by
    obtain ⟨o, ho, _⟩ := hl
    exact Nat.ne_of_lt (Heap.lt_size ho)
  have hlen : vs.size = ds.length := by rw [← q.length]; simp
  have itr : (s.heap.push { cls := .type "list_iterator", data := .fields #[.ref a, .int 0 0] }).IsListIter s.heap.objs.size a 0 := ⟨_, Heap.get?_push_size _ rfl, rfl, rfl⟩
  refine wpAny_pyIter_list hl (h s.heap.objs.size _ _ _ _ (kp_push s _) ⟨hlen ▸ Walks.list hh _ a hne vs, ?_, get_new _, ?_⟩ ⟨itr, ?_⟩ ?_ (Nat.le_refl _) (fun i h' x => x.1) ?_)
  · intro i v d h' hv hd g
    obtain ⟨u, hu, p⟩ := q.get hd
    have : vs.toList[i]? = some v := by simpa using hv
    rw [hu] at this
    cases this
    exact p.mono g.mono
  · intro b hb
    rcases List.mem_cons.mp hb with rfl | hb
    · exact .inl rfl
    · rcases List.mem_cons.mp hb with rfl | hb
      · obtain ⟨o, ho, _⟩ := hl
        exact .inr ⟨o, ho⟩
      · cases hb
  · show _ < (s.heap.push _).objs.size
    rw [Heap.size_push]; exact Nat.lt_succ_self _
  · intro b hb
    rcases List.mem_cons.mp hb with rfl | hb
    · exact .inl rfl
    · rcases List.mem_cons.mp hb with rfl | hb
      · exact .inr rfl
      · cases hb
  · exact hl.push _

noncomputable def rangeN (a : Int) (n : Nat) (c : Int) : List D := (List.range n).map fun i : Nat => D.int (a + i * c)
theorem rangeN_one (n : Int) : rangeN 0 n.toNat 1 = rangeL n := by unfold rangeN rangeL; simp

theorem src_ranger {a b c : Int} {t u v : Tok} {r : Addr} {n : Nat} {X : Addr → Prop} {s : Shared} (hh : A.handled = none) (hr : IsRange s.heap r a b c t u v) (hs : Builtin.Range.small a b c = true) (hn : Builtin.Range.rangeSize a b c = (n : Int))
    {Q : Value → Shared → Prop} {E : Value → Shared → Prop}
    (h : ∀ I fp P St s', Kp s s' → Src prog w A s.heap X I (rangeN a n c) fp P St → St 0 s'.heap → I < s'.heap.objs.size → s.heap.objs.size ≤ I → (∀ b ∈ fp, b = I) → (∀ i h', St i h' → ∃ o, h'.get? I = some o) → Q (.ref I) s') : wpAny (model prog w) A (pyIter (.ref r)) Q E s := by
  have hlen : (rangeN a n c).length = n := by simp [rangeN]
  refine wpAny_pyIter_range hr hs (h s.heap.objs.size _ _ _ _ (kp_push s _) ⟨hlen.symm ▸ Walks.range hh _ a c n, ?_, get_new _, ?_⟩ ?_ ?_ (Nat.le_refl _) (fun b hb => by rcases List.mem_cons.mp hb with e | hb; exact e; cases hb) fun i h' x => ⟨_, x⟩)
  · rintro i v d h' ⟨t, rfl⟩ hd g
    have : d = .int (a + i * c) := by
      unfold rangeN at hd
      rw [List.getElem?_map] at hd
      cases hi : (List.range n)[i]? with
      | none => rw [hi] at hd; cases hd
      | some j =>
        rw [hi] at hd
        obtain ⟨hlt, hj⟩ := List.getElem?_eq_some_iff.mp hi
        simp only [List.getElem_range] at hj
        subst hj
        simpa using hd.symm
    subst this
    exact den_int
  · intro b hb
    rcases List.mem_cons.mp hb with rfl | hb
    · exact .inl rfl
    · cases hb
  · have e1 : (a + ((0 : Nat) : Int) * c) = a := by simp
    have e2 : ((n : Int) - ((0 : Nat) : Int)) = Builtin.Range.rangeSize a b c := by rw [hn]; simp
    show IsRangeIter _ _ _ _ _
    rw [e1, hlen, e2]
    exact Heap.get?_push_size _ rfl
  · show _ < (s.heap.push _).objs.size
    rw [Heap.size_push]; exact Nat.lt_succ_self _

theorem src_range {n : Int} {X : Addr → Prop} {s : Shared} (hh : A.handled = none) (h0 : 0 ≤ n) (h1 : n ≤ 1000000) {t : Tok} {Q : Value → Shared → Prop} {E : Value → Shared → Prop}
    (h : ∀ h0 I fp P St s', Kp s s' → Grow s.heap h0 → Grow h0 s'.heap → Src prog w A h0 X I (rangeL n) fp P St → St 0 s'.heap → I < s'.heap.objs.size → h0.objs.size ≤ I → (∀ b ∈ fp, b = I) → (∀ i h', St i h' → ∃ o, h'.get? I = some o) → Q (.ref I) s') :
    wpAny (model prog w) A (call (.type "range") [.int n t]) (fun xv s₁ => wpAny (model prog w) A (pyIter xv) Q E s₁) E s := by
  refine call_range_1 ?_
  have hsz : Builtin.Range.rangeSize 0 n 1 = (n.toNat : Int) := by rw [rangeSize_one]; split <;> omega
  refine src_ranger (X := X) hh (IsRange.new ..) (small_one (by decide) (by decide) (by omega) (by omega)) hsz fun I fp P St s' k S st hI hI' hf hal => ?_
  rw [rangeN_one] at S
  refine h _ I fp P St s' (Kp.trans ⟨?_, ?_⟩ k) (grow_push _ _) k.grow S st hI hI' hf hal
  · exact ⟨_, _, rfl, grow_push _ _⟩
  · show s.toks ≤ s.toks + 1 + 1
    omega

variable {R : Result → Shared → Prop} {s : Shared}

theorem compLoop_own {elt target iter : Expr} {ifs : List Expr} {scope : Scope} {pos : Pos} {it acc : Value} {env : Env} (I : Nat → Shared → Prop)
    (turn : ∀ n s, I n s → wpAny (model prog w) A (pyNext it) (fun r s₁ => match r with
      | none => R (.ok .next) s₁
      | some v => wpAny (model prog w) A (letOwnedTupleGo target it v) (fun _ s₁ => wpAny (model prog w) A (assign target env v) (fun _ s₂ =>
          wpAny (model prog w) A (forIn ifs true fun c r => if r = true then do let ok ← isTrue c env (eval c env); pure (ForInStep.yield ok) else pure (ForInStep.yield r)) (fun ok s₃ =>
            if ok = true then wpAny (model prog w) A (eval elt env) (fun x s₄ =>
              wpAny (model prog w) A (call (.builtin "list.append") [acc, x]) (fun _ s₅ => ∃ m, m < n ∧ I m s₅) (notedBy (model prog w) A env fun e s' => R (.error e) s') s₄) (notedBy (model prog w) A env fun e s' => R (.error e) s') s₃
            else ∃ m, m < n ∧ I m s₃) (notedBy (model prog w) A env fun e s' => R (.error e) s') s₂) (notedBy (model prog w) A env fun e s' => R (.error e) s') s₁) (notedBy (model prog w) A env fun e s' => R (.error e) s') s₁) (notedBy (model prog w) A env fun e s' => R (.error e) s') s)
    (n : Nat) (h : I n s) :
    codeAny (model prog w) A (.compLoop (.ListComp elt [⟨target, iter, ifs, 0⟩] scope pos) 0 it acc env) R s := by
  refine codeAny_loop rfl I (fun n s hI => ?_) n h
  show wpAny _ A ((compTurn (.ListComp elt [⟨target, iter, ifs, 0⟩] scope pos) 0 it acc env).onRaise (fun x => do noteFrame x env; theTreesLotGoes x)) _ _ s
  refine wpAny_noted ?_
  rw [compTurn_list]
  refine wpAny_bind (wpAny_standAt (wpAny_bind (wpAny_mono (turn n s hI) (fun r s₁ h₁ => ?_) fun _ _ h' => h')))
  cases r with
  | none => exact wpAny_pure h₁
  | some v =>
    refine wpAny_bind (wpAny_mono h₁ (fun _ s₁ h₁ => ?_) fun _ _ h' => h')
    refine wpAny_bind (wpAny_mono h₁ (fun _ s₂ h₂ => wpAny_bind (wpAny_mono h₂ (fun ok s₃ h₃ => ?_) fun _ _ h' => h')) fun _ _ h' => h')
    cases ok with
    | false => exact wpAny_pure ⟨rfl, h₃⟩
    | true =>
      exact wpAny_bind (wpAny_bind (wpAny_mono h₃ (fun x s₄ h₄ => wpAny_bind (wpAny_mono h₄ (fun _ s₅ h₅ => wpAny_pure (wpAny_pure ⟨rfl, h₅⟩)) fun _ _ h' => h')) fun _ _ h' => h'))

/-- the target is set, what is left of the turn -/
inductive Asg (prog : Program) (w : World) (A : Around) (X : Addr → Prop) (elt : Expr) (ifs : List Expr) (cenv : Env) (o : Option D) (E' : Value → Shared → Prop) (s₃ s₄ : Shared) : Prop
  | mk (h₄ : Heap) (tk₄ : Nat) (m₄ : Str → Option Value) (hs : s₄ = { s₃ with heap := h₄, toks := tk₄ }) (ht : s₃.toks ≤ tk₄) (hn : h₄.Ns cenv.locals m₄) (hk : ∀ b ob, b ≠ cenv.locals → s₃.heap.get? b = some ob → h₄.get? b = some ob)
      (run : wpAny (model prog w) A (forIn ifs true fun c r => if r = true then do let ok ← isTrue c cenv (eval c cenv); pure (ForInStep.yield ok) else pure (ForInStep.yield r)) (fun ok s₅ =>
          ok = o.isSome ∧ Kp s₄ s₅ ∧ ∀ r, o = some r → wpAny (model prog w) A (eval elt cenv) (fun y s₆ => Kp s₅ s₆ ∧ Den s₆.heap X r y) E' s₅) E' s₄)

/-- one turn of the inner block -/
noncomputable def CompTurn (prog : Program) (w : World) (A : Around) (h0 : Heap) (n0 : Nat) (X : Addr → Prop) (I : Addr) (ds : List D) (St : Nat → Heap → Prop) (g : D → Option (Option D)) (elt target : Expr) (ifs : List Expr) (cenv : Env) : Prop :=
  ∀ k d v s₃ m₃ o, ds[k]? = some d → g d = some o → Den h0 X d v → Grow h0 s₃.heap → St (k + 1) s₃.heap → n0 ≤ s₃.toks → s₃.heap.Ns cenv.locals m₃ → ∀ E',
    wpAny (model prog w) A (letOwnedTupleGo target (.ref I) v) (fun _ s => s = s₃ ∧ wpAny (model prog w) A (assign target cenv v) (fun _ s₄ => Asg prog w A X elt ifs cenv o E' s₃ s₄) E' s₃) E' s₃

/-- between the turns -/
inductive CInv (h0 : Heap) (X : Addr → Prop) (D' L : Addr) (n0 : Nat) (g : D → Option (Option D)) (ds rs : List D) (St : Nat → Heap → Prop) (s : Shared) (q : Nat) (s' : Shared) : Prop
  | mk (k : Nat) (done rest : List D) (h' : Heap) (tk : Nat) (m' : Str → Option Value) (ys : Array Value) (hs : s' = { s with heap := h', toks := tk }) (hk : k ≤ ds.length) (hq : q = ds.length - k) (hc : coll g (ds.drop k) = some rest) (hrs : rs = done ++ rest)
      (hsc : ∀ d ∈ done, Mine.scal d = true) (hdl : done.length ≤ k) (hg : Grow h0 h') (htk : n0 ≤ tk) (hns : h'.Ns L m') (hpl : h'.PlainList D' ys) (hden : DenL h' X done ys.toList) (hsk : St k h')

theorem wpM {α : Type} {M : Model} {c : Sem α} {Q Q' : α → Shared → Prop} {E : Value → Shared → Prop} {s : Shared} (h : wpAny M A c Q E s) (k : ∀ a s, Q a s → Q' a s) : wpAny M A c Q' E s := wpAny_mono h k fun _ _ e => e
theorem wp_neg {α : Type} {M : Model} {p : Prop} [Decidable p] {a b : Sem α} {Q : α → Shared → Prop} {E : Value → Shared → Prop} {s : Shared} (h : ¬ p) (k : wpAny M A b Q E s) : wpAny M A (if p then a else b) Q E s := by rw [if_neg h]; exact k
theorem wp_pos {α : Type} {M : Model} {p : Prop} [Decidable p] {a b : Sem α} {Q : α → Shared → Prop} {E : Value → Shared → Prop} {s : Shared} (h : p) (k : wpAny M A a Q E s) : wpAny M A (if p then a else b) Q E s := by rw [if_pos h]; exact k
theorem not_one {I b : Addr} (hb : b ≠ I) : b ∉ [I] := fun hm => (List.mem_cons.mp hm).elim hb fun h => nomatch h
theorem ne_of_get {h : Heap} {a b : Addr} {o : Obj} (ha : h.get? a = none) (hb : h.get? b = some o) : b ≠ a := fun e => nope ((e ▸ ha).symm.trans hb)

theorem comp_loop {elt target iter : Expr} {ifs : List Expr} {scope : Scope} {pos : Pos} {cenv : Env} {h0 : Heap} {X : Addr → Prop} {I D' : Addr} {ds rs : List D} {fp : List Addr} {P : Nat → Value → Prop} {St : Nat → Heap → Prop}
    {g : D → Option (Option D)} {n0 : Nat} {m : Str → Option Value}
    (S : Src prog w A h0 X I ds fp P St) (hsz : ds.length ≤ sizeLine) (hcoll : coll g ds = some rs)
    (hD : h0.get? D' = none) (hC : h0.get? cenv.locals = none) (hDI : D' ≠ I) (hCI : cenv.locals ≠ I) (hDC : D' ≠ cenv.locals)
    (turn : CompTurn prog w A h0 n0 X I ds St g elt target ifs cenv)
    (hG : Grow h0 s.heap) (hst : St 0 s.heap) (hacc : s.heap.PlainList D' #[]) (hn : s.heap.Ns cenv.locals m) (ht : n0 ≤ s.toks)
    (hR : ∀ h' tk m' ys, Grow h0 h' → n0 ≤ tk → h'.Ns cenv.locals m' → h'.PlainList D' ys → DenL h' X rs ys.toList → R (.ok .next) { s with heap := h', toks := tk }) :
    codeAny (model prog w) A (.compLoop (.ListComp elt [⟨target, iter, ifs, 0⟩] scope pos) 0 (.ref I) (.ref D') cenv) R s := by
  refine compLoop_own (CInv h0 X D' cenv.locals n0 g ds rs St s) ?_ (ds.length - 0) ⟨0, [], rs, s.heap, s.toks, m, #[], rfl, Nat.zero_le _, rfl, hcoll, rfl, (fun _ h => nomatch h), Nat.le_refl _, hG, ht, hn, hacc, .nil, hst⟩
  rintro q s' ⟨k, done, rest, h', tk, m', ys, rfl, hk, rfl, hc, hrs, hsc, hdl, hg, htk, hns, hpl, hden, hsk⟩
  have notfp : ∀ {a : Addr}, h0.get? a = none → a ≠ I → a ∉ fp := fun ha hne hm => (S.old _ hm).elim hne fun ⟨o, ho⟩ => nope (ha.symm.trans ho)
  have oldI : ∀ b o, h0.get? b = some o → b ∉ [I] := fun b o ho => not_one (ne_of_get S.new ho)
  rcases Nat.lt_or_ge k ds.length with hlt | hge
  · refine wpAny_with_toks (n := n0) htk (S.W.item k _ _ _ hlt hsk fun v h₁ tk₁ hPv hst₁ hk₁ htk₁ => ?_)
    replace hc := (congrArg (coll g) (List.drop_eq_getElem_cons hlt)).symm.trans hc
    obtain ⟨o, ho⟩ := coll_hd hc
    have hd : ds[k]? = some ds[k] := List.getElem?_eq_getElem hlt
    have g₁ : Grow h0 h₁ := fun b o ho => hk₁ b o (oldI b o ho) (hg b o ho)
    have ns₁ : h₁.Ns cenv.locals m' := hns.at' fun o e => hk₁ _ o (not_one hCI) e
    have pl₁ : h₁.PlainList D' ys := hpl.at fun o e => hk₁ _ o (not_one hDI) e
    refine wpM (turn k ds[k] v { s with heap := h₁, toks := tk₁ } m' o hd ho (S.val k v _ _ hPv hd (Grow.refl _)) g₁ hst₁ htk₁ ns₁ _) fun _ s'' hh => ?_
    obtain ⟨rfl, hh⟩ := hh
    refine wpM hh fun _ s'' hh => ?_
    obtain ⟨h₄, tk₄, m₄, rfl, htk₄, ns₄, hk₄, hh⟩ := hh
    have g₄ : Grow h0 h₄ := fun b o ho => hk₄ b o (ne_of_get hC ho) (g₁ b o ho)
    have pl₄ : h₄.PlainList D' ys := pl₁.at fun o e => hk₄ _ o hDC e
    have st₄ : St (k + 1) h₄ := S.W.frame _ _ _ hst₁ fun b hb o e => hk₄ b o (fun h => notfp hC hCI (h ▸ hb)) e
    refine wpM hh fun ok s₅ hh => ?_
    obtain ⟨rfl, ⟨⟨h₅, tk₅, rfl, k₅⟩, ht₅⟩, hh⟩ := hh
    have t₅ : n0 ≤ tk₅ := Nat.le_trans htk₁ (Nat.le_trans htk₄ ht₅)
    have st₅ : St (k + 1) h₅ := S.W.frame _ _ _ st₄ fun b hb o e => k₅ b o e
    have less : ds.length - (k + 1) < ds.length - k := Nat.sub_succ_lt_self _ _ hlt
    cases o with
    | none => exact ⟨_, less, k + 1, done, rest, h₅, tk₅, m₄, ys, rfl, hlt, rfl, coll_none ho hc, hrs, hsc, Nat.le_succ_of_le hdl, g₄.trans k₅, t₅, ns₄.keeps k₅, pl₄.at (k₅ _), hden.scal hsc, st₅⟩
    | some r =>
      obtain ⟨hsr, rest', hc', rfl⟩ := coll_some ho hc
      refine wpM (hh r rfl) fun y s₆ hh => ?_
      obtain ⟨⟨⟨h₆, tk₆, rfl, k₆⟩, ht₆⟩, hy⟩ := hh
      have hys : ys.size ≤ sizeLine := by rw [← Array.length_toList, hden.length]; exact Nat.le_trans hdl (Nat.le_trans hk hsz)
      refine wpAny_list_append_plain (hsz := hys) ((pl₄.at (k₅ _)).at (k₆ _)) fun h₇ pl₇ hs₇ => ?_
      have up₇ : ∀ b o, b ≠ D' → h₆.get? b = some o → h₇.get? b = some o := fun b o hb e => hs₇.extBut b o hb e
      refine ⟨_, less, k + 1, done ++ [r], rest', h₇, tk₆, m₄, ys.push y, rfl, hlt, rfl, hc', hrs.trans (List.append_cons _ _ _), ?_, Nat.le_trans (Nat.le_of_eq List.length_append) (Nat.succ_le_succ hdl), fun b o ho => up₇ b o (ne_of_get hD ho) ((g₄.trans k₅).trans k₆ b o ho), Nat.le_trans t₅ ht₆,
        ((ns₄.keeps k₅).keeps k₆).sameBut hs₇ (Ne.symm hDC), pl₇, ?_, S.W.frame _ _ _ st₅ fun b hb o e => up₇ b o (fun h => notfp hD hDI (h ▸ hb)) (k₆ b o e)⟩
      · exact fun d hd => (List.mem_append.mp hd).elim (hsc d) fun hd => (List.mem_singleton.mp hd).symm ▸ hsr
      · rw [Array.toList_push]
        exact (hden.scal hsc).snoc (hy.scal hsr)
  · have hkk : k = ds.length := Nat.le_antisymm hk hge
    subst hkk
    refine wpAny_with_toks (n := n0) htk (S.W.done _ _ _ hsk fun h₁ tk₁ hk₁ htk₁ => ?_)
    have hc' : [] = rest := Option.some.inj ((congrArg (coll g) List.drop_length).symm.trans hc)
    subst hc'
    rw [List.append_nil] at hrs
    subst hrs
    exact hR h₁ tk₁ m' ys (fun b o ho => hk₁ b o (oldI b o ho) (hg b o ho)) htk₁ (hns.at' fun o e => hk₁ _ o (not_one hCI) e) (hpl.at fun o e => hk₁ _ o (not_one hDI) e) (hden.scal hsc)

end
end Mine
end

/-! S10 -/
section
open PySem PySem.W PyProof.Rows
set_option maxRecDepth 4000

namespace Mine

noncomputable def CellsOk (env : Env) : Prop := ∀ n, env.kindOf n = some .cell → ∃ c, env.cells.lookup n = some c

noncomputable def clOf (env : Env) : List (Str × NameKind) → List (Str × Addr) → List (Str × Addr)
  | [], acc => acc
  | (n, k) :: r, acc => if k == .free then clOf env r ((n, (env.cells.lookup n).getD 0) :: acc) else clOf env r acc

theorem clOf_pure {env : Env} : ∀ (names : List (Str × NameKind)) (acc : List (Str × Addr)), (∀ p ∈ names, p.2 = .free → ∃ c, env.cells.lookup p.1 = some c) →
    (forIn names acc (fun (x : Str × NameKind) (cs : List (Str × Addr)) => match x with
      | (name, kind) => if (kind == .free) = true then (do let a ← cellOf env name; pure (ForInStep.yield ((name, a) :: cs)) : Sem (ForInStep (List (Str × Addr)))) else pure (ForInStep.yield cs))) = (pure (clOf env names acc) : Sem (List (Str × Addr)))
  | [], acc, _ => rfl
  | (n, k) :: r, acc, h => by
    rw [List.forIn_cons]
    unfold clOf
    dsimp only
    cases hk : (k == NameKind.free) with
    | false =>
      rw [if_neg (by decide), if_neg (by decide), pure_bind]
      exact clOf_pure r acc fun p hp => h p (.tail _ hp)
    | true =>
      obtain ⟨c, hc⟩ := h (n, k) (.head _) (by simpa using hk)
      have e : cellOf env n = pure c := by unfold cellOf; rw [hc]
      rw [if_pos rfl, if_pos rfl, e, pure_bind, pure_bind, hc]
      exact clOf_pure r _ fun p hp => h p (.tail _ hp)

theorem closure_pure {env : Env} {scope : Scope} (h : ∀ p ∈ scope.names, p.2 = .free → ∃ c, env.cells.lookup p.1 = some c) : closureFor scope env = pure (clOf env scope.names []) := by
  have := clOf_pure (env := env) scope.names [] h
  unfold closureFor
  simp only [bind_pure]
  exact this

theorem clOf_lookup {env : Env} {n : Str} {c : Addr} (hc : env.cells.lookup n = some c) : ∀ (names : List (Str × NameKind)) (acc : List (Str × Addr)), (acc.lookup n = some c ∨ acc.lookup n = none) →
    (acc.lookup n = some c ∨ (n, NameKind.free) ∈ names) → (clOf env names acc).lookup n = some c
  | [], acc, _, h => by
    rcases h with h | h
    · exact h
    · cases h
  | (x, k) :: r, acc, h0, h => by
    unfold clOf
    cases hk : (k == NameKind.free) with
    | false =>
      simp only [Bool.false_eq_true, if_false]
      refine clOf_lookup hc r acc h0 ?_
      rcases h with h | h
      · exact .inl h
      · rcases List.mem_cons.mp h with e | h
        · injection e with e1 e2; subst e2; simp at hk
        · exact .inr h
    | true =>
      simp only [if_true]
      by_cases hx : n = x
      · subst hx
        refine clOf_lookup hc r _ (.inl ?_) (.inl ?_) <;> simp [hc]
      · have hb : (n == x) = false := by simpa using hx
        refine clOf_lookup hc r _ ?_ ?_
        · simpa [List.lookup_cons, hb] using h0
        · rcases h with h | h
          · exact .inl (by simpa [List.lookup_cons, hb] using h)
          · rcases List.mem_cons.mp h with e | h
            · injection e with e1 e2; exact absurd e1 hx
            · exact .inr h

theorem mem_of_lookup {n : Str} {k : NameKind} : ∀ {names : List (Str × NameKind)}, names.lookup n = some k → (n, k) ∈ names
  | [], h => by cases h
  | (x, k') :: r, h => by
    by_cases hx : n = x
    · subst hx
      simp only [List.lookup_cons, beq_self_eq_true, Option.some.injEq] at h
      subst h; exact .head _
    · have hb : (n == x) = false := by simpa using hx
      simp only [List.lookup_cons, hb] at h
      exact .tail _ (mem_of_lookup h)

theorem kindsIn_local {sc : List (Str × NameKind)} {x : Str} : ∀ {names : List (Str × NameKind)}, names.lookup x = some .local → (kindsIn names sc).lookup x = some .local
  | [], h => by cases h
  | (n, k) :: r, h => by
    show List.lookup x ((if (k == .free && sc.lookup n == some .cell) then (n, .cell) else (n, k)) :: kindsIn r sc) = _
    by_cases hx : x = n
    · subst hx
      simp only [List.lookup_cons, beq_self_eq_true, Option.some.injEq] at h
      subst h
      simp
    · have hb : (x == n) = false := by simpa using hx
      simp only [List.lookup_cons, hb] at h
      have ih := kindsIn_local (sc := sc) h
      split <;> simp only [List.lookup_cons, hb] <;> exact ih
theorem kindsIn_free {sc : List (Str × NameKind)} {x : Str} (hs : sc.lookup x = some .cell) : ∀ {names : List (Str × NameKind)}, names.lookup x = some .free → (kindsIn names sc).lookup x = some .cell
  | [], h => by cases h
  | (n, k) :: r, h => by
    show List.lookup x ((if (k == .free && sc.lookup n == some .cell) then (n, .cell) else (n, k)) :: kindsIn r sc) = _
    by_cases hx : x = n
    · subst hx
      simp only [List.lookup_cons, beq_self_eq_true, Option.some.injEq] at h
      subst h
      simp [hs]
    · have hb : (x == n) = false := by simpa using hx
      simp only [List.lookup_cons, hb] at h
      have ih := kindsIn_free hs h
      split <;> simp only [List.lookup_cons, hb] <;> exact ih
theorem kindsIn_cell {sc : List (Str × NameKind)} {x : Str} {names : List (Str × NameKind)} (hn : ∀ p ∈ names, p.2 ≠ .cell) (h : (kindsIn names sc).lookup x = some .cell) : (x, NameKind.free) ∈ names ∧ sc.lookup x = some .cell := by
  have := mem_of_lookup h
  unfold kindsIn at this
  obtain ⟨⟨n, k⟩, hp, e⟩ := List.mem_map.mp this
  simp only at e
  split at e
  · rename_i hc
    injection e with e1 e2
    subst e1
    simp only [Bool.and_eq_true, beq_iff_eq] at hc
    obtain ⟨rfl, hc2⟩ := hc
    exact ⟨hp, hc2⟩
  · injection e with e1 e2
    subst e1; subst e2
    exact absurd rfl (hn _ hp)

theorem relabel_names {scope : Scope} {env : Env} (hE : env.scope.kind = .function) : (relabel scope env).names = kindsIn scope.names env.scope.names := by
  unfold relabel kindsIn
  simp only
  refine List.map_congr_left fun p _ => ?_
  obtain ⟨n, k⟩ := p
  simp only [hE, beq_self_eq_true, Bool.and_true]
  rfl

end Mine
end

/-! S11 -/
section
open PySem PySem.W PyProof.Rows
set_option maxRecDepth 4000

namespace Mine
section
variable {prog : Program} {w : World} {A : Around} {mg mb : Str → Option Value} {hG : Heap} {env : Env} {Φ : Str → List D → Option D} {nm : Nat → Str} {s : Shared}

theorem comp_block {elt target iter : Expr} {ifs : List Expr} {scope : Scope} {cl : List (Str × Addr)} {pos : Pos} {s₂ : Shared} {h0 : Heap} {X : Addr → Prop} {I : Addr} {ds rs : List D} {fp : List Addr} {P : Nat → Value → Prop} {St : Nat → Heap → Prop}
    {g : D → Option (Option D)} {E : Value → Shared → Prop} {RR : Value → Addr → Result → Shared → Prop}
    (S : Src prog w A h0 X I ds fp P St) (hsz : ds.length ≤ sizeLine) (hcoll : coll g ds = some rs) (hG : Grow h0 s₂.heap) (hst : St 0 s₂.heap) (hI : I < s₂.heap.objs.size)
    (hcell : ∀ y ∈ scope.names, y.2 ≠ .cell) (hkind : scope.kind = .function)
    (turn : ∀ C, s₂.heap.objs.size ≤ C → CompTurn prog w A h0 s₂.toks X I ds St g elt target ifs (compEnvC scope cl C env))
    (hRR : ∀ D' C h' tk m' ys, s₂.heap.objs.size ≤ D' → s₂.heap.objs.size ≤ C → D' ≠ C → Grow h0 h' → s₂.toks ≤ tk → h'.Ns C m' → h'.PlainList D' ys → DenL h' X rs ys.toList → RR (.ref D') C (.ok .next) { s₂ with heap := h', toks := tk }) :
    wpAny (model prog w) A (newList []) (fun acc s₃ => wpAny (model prog w) A (newFunctionEnv scope env.globals cl [] env.qual none .none (some env)) (fun cenv s₄ =>
      codeAny (model prog w) A (.compStart (.ListComp elt [⟨target, iter, ifs, 0⟩] scope pos) 0 (.ref I) acc { cenv with scope := relabel scope env }) (RR acc cenv.locals) s₄) E s₃) E s₂ := by
  refine wpAny_newObj_type (wpAny_newFunctionEnv hcell (by intro y hy; simp at hy) (fun h₁ hns₁ hsb₁ => ?_) hkind)
  dsimp only at hns₁ hsb₁ ⊢
  generalize hH2 : s₂.heap.push { cls := .type "list", dict := none, data := .seq ([] : List Value).toArray } = H2 at hns₁ hsb₁ ⊢
  have hC : H2.objs.size = s₂.heap.objs.size + 1 := by rw [← hH2, Heap.size_push]
  have hDC : s₂.heap.objs.size ≠ H2.objs.size := by rw [hC]; exact Nat.ne_of_lt (Nat.lt_succ_self _)
  have hCle : s₂.heap.objs.size ≤ H2.objs.size := by rw [hC]; exact Nat.le_succ _
  have below : ∀ b, b < s₂.heap.objs.size → b ≠ H2.objs.size ∧ b ≠ s₂.heap.objs.size := fun b hb => ⟨by rw [hC]; exact Nat.ne_of_lt (Nat.lt_succ_of_lt hb), Nat.ne_of_lt hb⟩
  have old : Grow s₂.heap h₁ := fun b o e => hsb₁.extBut b o (below b (Heap.lt_size e)).1 (Heap.get?_push_of_some _ (hH2 ▸ Heap.get?_push_of_some _ e))
  have hacc : h₁.PlainList s₂.heap.objs.size #[] := ⟨_, hsb₁.extBut _ _ hDC (Heap.get?_push_of_some _ (hH2 ▸ Heap.get?_push_size _ rfl))⟩
  have fpI : I ≠ s₂.heap.objs.size ∧ I ≠ H2.objs.size := ⟨Nat.ne_of_lt hI, (below I hI).1⟩
  have nold : ∀ a, s₂.heap.objs.size ≤ a → h0.get? a = none := fun a ha => by
    cases e : h0.get? a with
    | none => rfl
    | some o => exact absurd (Heap.lt_size (hG _ _ e)) (Nat.not_lt.mpr ha)
  have hst₁ : St 0 h₁ := S.W.frame _ _ _ hst fun b hb o e => old b o e
  have loop : ∀ s₃ : Shared, s₃ = { s₂ with heap := h₁, toks := s₂.toks + ([] : List (Str × Value)).length } →
      codeAny (model prog w) A (.compLoop (.ListComp elt [⟨target, iter, ifs, 0⟩] scope pos) 0 (.ref I) (.ref s₂.heap.objs.size) (compEnvC scope cl H2.objs.size env))
        (RR (.ref s₂.heap.objs.size) H2.objs.size) s₃ := by
    rintro s₃ rfl
    refine comp_loop (n0 := s₂.toks) S hsz hcoll (nold _ (Nat.le_refl _)) (nold _ hCle) fpI.1.symm fpI.2.symm hDC (turn _ hCle) (hG.trans old) hst₁ hacc hns₁ (Nat.le_add_right _ _) fun h' tk m' ys g ht hn hl q => ?_
    exact hRR _ _ h' tk m' ys (Nat.le_refl _) hCle hDC g ht hn hl q
  exact codeAny_compStart_list (loop _ rfl) (S.W.self 0 _ _ _ hst₁ (loop _ rfl))

/-- a list comprehension, its iterator and its turns told -/
inductive CompReady (prog : Program) (w : World) (A : Around) (env : Env) (scope : Scope) (cl : List (Str × Addr)) (elt target : Expr) (ifs : List Expr) (Q : Value → Shared → Prop) (it : Value) (s₂ : Shared) : Prop
  | mk (h0 : Heap) (X : Addr → Prop) (I : Addr) (ds rs : List D) (fp : List Addr) (P : Nat → Value → Prop) (St : Nat → Heap → Prop) (g : D → Option (Option D)) (hit : it = .ref I) (S : Src prog w A h0 X I ds fp P St) (hsz : ds.length ≤ sizeLine) (hc : coll g ds = some rs) (hG : Grow h0 s₂.heap) (hst : St 0 s₂.heap) (hI : I < s₂.heap.objs.size)
    (turn : ∀ C, s₂.heap.objs.size ≤ C → CompTurn prog w A h0 s₂.toks X I ds St g elt target ifs (compEnvC scope cl C env))
    (hQ : ∀ D' h' tk ys, s₂.heap.objs.size ≤ D' → Grow h0 h' → s₂.toks ≤ tk → h'.PlainList D' ys → DenL h' X rs ys.toList → Q (.ref D') { s₂ with heap := h', toks := tk })

theorem comp_eval {elt target iter : Expr} {ifs : List Expr} {scope : Scope} {cl : List (Str × Addr)} {pos : Pos} {Q : Value → Shared → Prop} {E : Value → Shared → Prop}
    (hclos : closureFor scope env = pure cl) (hcell : ∀ y ∈ scope.names, y.2 ≠ .cell) (hkind : scope.kind = .function)
    (hnames : ∀ y ∈ scope.names, y.2 = .local → scope.names.lookup y.1 = some .local)
    (hs : ∀ x, foldedSetIterable iter env x = pure x)
    (h : wpAny (model prog w) A (eval iter env) (fun xv s₁ => wpAny (model prog w) A (pyIter xv) (CompReady prog w A env scope cl elt target ifs Q) E s₁) E s) :
    wpAny (model prog w) A (eval (.ListComp elt [⟨target, iter, ifs, 0⟩] scope pos) env) Q E s := by
  rw [eval_ListComp]
  refine wpAny_comprehension_free (use := none) rfl hs hclos hkind hnames (wpAny_mono h (fun xv s₁ h₁ => wpAny_mono h₁ (fun it s₂ h₂ => ?_) fun _ _ e => e) fun _ _ e => e)
  obtain ⟨h0, X, I, ds, rs, fp, P, St, g, rfl, S, hsz, hcoll, hG, hst, hI, turn, hQ⟩ := h₂
  refine comp_block (RR := fun acc C => compPost (model prog w) A E none Q acc C) S hsz hcoll hG hst hI hcell hkind turn ?_
  intro D' C h' tk m' ys hD hC hDC g ht hn hl q
  refine ⟨m', hn, fun h'' hs'' => hQ D' h'' tk ys hD ?_ ht (hl.extBut hs''.extBut hDC) (q.scal (coll_scal hcoll))⟩
  intro b o e
  exact hs''.extBut b o (by rintro rfl; exact absurd (Heap.lt_size (hG _ _ e)) (Nat.not_lt.mpr hC)) (g b o e)

/-- what an inner block sees -/
structure InnerOk (env : Env) (scope : Scope) (vis : List Nat) (nm : Nat → Str) : Prop where
  kind : scope.kind = .function
  cell : ∀ y ∈ scope.names, y.2 ≠ .cell
  names : ∀ y ∈ scope.names, y.2 = .local → scope.names.lookup y.1 = some .local
  free : ∀ p ∈ scope.names, p.2 = .free → env.kindOf p.1 = some .cell ∧ scope.names.lookup p.1 = some .free
  vis : ∀ y, vis.contains y = true → scope.names.lookup (nm y) = some .free

variable {scope : Scope} {vis : List Nat}

theorem InnerOk.closure (x : InnerOk env scope vis nm) (hc : CellsOk env) : closureFor scope env = pure (clOf env scope.names []) := closure_pure fun p hp hf => hc _ (x.free p hp hf).1

theorem InnerOk.cellsOk (x : InnerOk env scope vis nm) (hE : EnvOk env) (hc : CellsOk env) (C : Addr) : CellsOk (compEnvC scope (clOf env scope.names []) C env) := by
  intro n h
  have h1 : (relabel scope env).names.lookup n = some .cell := h
  rw [relabel_names hE.1] at h1
  obtain ⟨hf, hk⟩ := kindsIn_cell x.cell h1
  obtain ⟨c, e⟩ := hc n hk
  exact ⟨c, clOf_lookup e _ _ (.inr rfl) (.inr hf)⟩

theorem InnerOk.envOk (x : InnerOk env scope vis nm) (hE : EnvOk env) (cl C) : EnvOk (compEnvC scope cl C env) := ⟨x.kind, hE.2.1, hE.2.2⟩

theorem InnerOk.look (x : InnerOk env scope vis nm) (hE : EnvOk env) {C : Addr} {h : Heap} {y : Nat} {v : Value} (hv : vis.contains y = true) (l : Look env h (nm y) v) : Look (compEnvC scope (clOf env scope.names []) C env) h (nm y) v := by
  have hf := x.vis y hv
  have hk := (x.free _ (mem_of_lookup hf) rfl).1
  rcases l with ⟨k, _⟩ | ⟨_, c, e, hcell⟩
  · rw [hk] at k; cases k
  · refine .inr ⟨?_, c, clOf_lookup e _ _ (.inr rfl) (.inr (mem_of_lookup hf)), hcell⟩
    show (relabel scope env).names.lookup _ = _
    rw [relabel_names hE.1]
    exact kindsIn_free hk hf

theorem SlotOk.toEnv {env' : Env} {X α h x} (l : ∀ v, Look env h (nm x) v → Look env' h (nm x) v) {v} (k : SlotOk env nm X α h x v) : SlotOk env' nm X α h x v :=
  k.map l (fun _ _ e n => ⟨e, n⟩) (fun _ => ⟨rfl, id, fun _ e => e⟩) fun _ _ => rfl

theorem InnerOk.slots (x : InnerOk env scope vis nm) (hE : EnvOk env) {C : Addr} {X α σ} {s : Shared} (I : EInv mg mb hG env nm X α σ s) :
    EInv mg mb hG (compEnvC scope (clOf env scope.names []) C env) nm X α (inner σ vis) s := by
  refine ⟨I.bas, I.tok, I.live, fun y => ?_⟩
  unfold inner
  cases hv : vis.contains y with
  | false => exact trivial
  | true => exact (I.slots y).toEnv fun v l => x.look hE hv l

theorem look_local {cenv : Env} {n : Str} {h : Heap} {m : Str → Option Value} {v : Value} (hk : cenv.kindOf n = some .local) (hn : h.Ns cenv.locals m) (e : m n = some v) : Look cenv h n v := .inl ⟨hk, m, hn, e⟩

theorem kindOf_comp (hE : EnvOk env) {n : Str} (h : scope.names.lookup n = some .local) (cl C) : (compEnvC scope cl C env).kindOf n = some .local := by
  show (relabel scope env).names.lookup _ = _
  rw [relabel_names hE.1]
  exact kindsIn_local h

theorem slot_upd {P : Nat → SV → Prop} {σ : Slots} {i : Nat} {v : SV} (h0 : P i v) (h1 : ∀ y, P y (σ y)) (y : Nat) : P y (upd σ i v y) := by
  unfold upd
  by_cases h : y = i
  · rw [if_pos h, h]; exact h0
  · rw [if_neg h]; exact h1 y
theorem someO_k {x : Option D} {o : Option D} {G : Prop} (e : someO x = some o) (k : ∀ r, x = some r → some r = o → G) : G := by
  cases x with
  | none => exact nope e
  | some r => exact k r rfl (Option.some.inj e)

/-- the turn of a block with one name and no test -/
theorem turn_name {elt : Expr} {ce : Mine.E} {n : Str} {i : Nat} {p : Pos} {h0 : Heap} {n0 : Nat} {X : Addr → Prop} {α : Nat → Addr} {σ : Slots} {I : Addr} {ds : List D} {St : Nat → Heap → Prop} {C : Addr} {s₁ : Shared}
    (x : InnerOk env scope vis nm) (hE : EnvOk env) (hn : scope.names.lookup n = some .local) (hnm : nm i = n)
    (he : Snd prog w mg mb hG A Φ nm (compEnvC scope (clOf env scope.names []) C env) elt ce) (I1 : EInv mg mb hG env nm X α σ s₁) (hh0 : Grow s₁.heap h0) (hn0 : s₁.toks ≤ n0) (hC : h0.get? C = none) :
    CompTurn prog w A h0 n0 X I ds St (fun d => someO (evm Φ .strict ce (upd (inner σ vis) i (.val d)))) elt (.Name n p) [] (compEnvC scope (clOf env scope.names []) C env) := by
  intro k d v s₃ m₃ o hd hg dv hgr hst htk hns E'
  refine wpAny_pure ⟨rfl, ?_⟩
  have hkl := kindOf_comp hE hn (clOf env scope.names []) C
  refine wpAny_assign_Name (wpAny_storeName_local hkl hns (fun h₂ hn₂ hs₂ => ?_) (by simp [compEnvC, relabel, x.kind]))
  refine ⟨h₂, s₃.toks + 1, _, rfl, Nat.le_succ _, hn₂, fun b ob hb e => hs₂.extBut b ob hb e, ?_⟩
  refine wpAny_tests_nil ?_
  have g₀ : Grow h0 h₂ := fun b ob e => hs₂.extBut b ob (ne_of_get hC e) (hgr _ _ e)
  have g₂ : Grow s₁.heap h₂ := hh0.trans g₀
  refine someO_k hg fun r hv hr => ?_
  subst hr
  refine ⟨rfl, kp_refl _, fun r' hr => ?_⟩
  have J := x.slots (C := C) hE I1
  exact he .strict X α _ _ r' ⟨J.bas.grow g₂, Nat.le_trans J.tok (Nat.le_trans hn0 (Nat.le_trans htk (Nat.le_succ _))), J.live.grow g₂, slot_upd (P := SlotOk (compEnvC scope (clOf env scope.names []) C env) nm X α h₂) (i := i) (v := .val d) ⟨v, look_local (hnm ▸ hkl) hn₂ (by simp [hnm]), dv.mono g₀.mono⟩ fun y => (J.slots y).grow g₂⟩
    (hr ▸ hv) _ _ fun y s₆ k6 p6 => ⟨k6, p6⟩

end
end Mine
end

/-! S12 -/
section
open PySem PySem.W PyProof.Rows
set_option maxRecDepth 4000

namespace Mine
section
variable {prog : Program} {w : World} {A : Around} {mg mb : Str → Option Value} {hG : Heap} {env : Env} {Φ : Str → List D → Option D} {nm : Nat → Str} {s : Shared} {scope : Scope} {vis : List Nat}

noncomputable abbrev pairG (Φ : Str → List D → Option D) (cc : Mine.E) (σ : Slots) (i j : Nat) : D → Option (Option D) := pairO fun p q => evm Φ .test cc (upd (upd σ i (.val p)) j (.val q))

theorem oneO_k {r : Option D} {o : Option D} {G : Prop} (e : oneO r = some o) (k : ∀ b, r = some (.bool b) → (if b then some (.int 1) else none) = o → G) : G := by
  cases r with
  | none => exact nope e
  | some d => cases d with
    | bool b => cases b with
      | true => exact k true rfl (Option.some.inj e)
      | false => exact k false rfl (Option.some.inj e)
    | _ => exact nope e
theorem pairO_k {f : D → D → Option D} {d : D} {o : Option D} {G : Prop} (e : pairO f d = some o) (k : ∀ p q, d = .tup [p, q] → oneO (f p q) = some o → G) : G := by
  cases d with
  | tup l => cases l with
    | nil => exact nope e
    | cons p l => cases l with
      | nil => exact nope e
      | cons q l => cases l with
        | nil => exact k p q rfl e
        | cons => exact nope e
  | _ => exact nope e
theorem den_pair {h : Heap} {X : Addr → Prop} {p q : D} {v : Value} (x : Den h X (.tup [p, q]) v) : ∃ a v1 v2, v = .ref a ∧ ¬ X a ∧ h.IsTuple a #[v1, v2] ∧ Den h X p v1 ∧ Den h X q v2 := by
  obtain ⟨a, vs, rfl, hXa, htup, hq⟩ := den_tup_inv x
  obtain ⟨v1, r1, e1, d1, q1⟩ := hq.cons_inv
  obtain ⟨v2, r2, rfl, d2, q2⟩ := q1.cons_inv
  rw [q2.nil_inv] at e1
  exact ⟨a, v1, v2, rfl, hXa, (Array.toList_inj.mp e1 : vs = #[v1, v2]) ▸ htup, d1, d2⟩

theorem turn_pair {cond : Expr} {cc : Mine.E} {n1 n2 : Str} {i j : Nat} {p1 p2 : Pos} {kk : Nat} {tp : Pos} {ck : Nat} {cp : Pos} {h0 : Heap} {n0 : Nat} {X : Addr → Prop} {α : Nat → Addr} {σ : Slots} {I : Addr} {ds : List D} {St : Nat → Heap → Prop} {C : Addr} {s₁ : Shared}
    (hh : A.handled = none) (hlist : ∀ i h, St i h → ∃ l, h.IsListIter I l i)
    (x : InnerOk env scope vis nm) (hE : EnvOk env) (hn1 : scope.names.lookup n1 = some .local) (hn2 : scope.names.lookup n2 = some .local) (hnm1 : nm i = n1) (hnm2 : nm j = n2) (hne : n1 ≠ n2)
    (he : Snd prog w mg mb hG A Φ nm (compEnvC scope (clOf env scope.names []) C env) cond cc) (I1 : EInv mg mb hG env nm X α σ s₁) (hh0 : Grow s₁.heap h0) (hn0 : s₁.toks ≤ n0) (hC : h0.get? C = none) :
    CompTurn prog w A h0 n0 X I ds St (pairG Φ cc (inner σ vis) i j) (.Constant (.int 1) ck cp) (.Tuple [.Name n1 p1, .Name n2 p2] kk tp) [cond] (compEnvC scope (clOf env scope.names []) C env) := by
  intro k d v s₃ m₃ o hd hg dv hgr hst htk hns E'
  refine pairO_k hg fun p q hpq hg => oneO_k hg fun b hb ho => ?_
  subst hpq ho
  obtain ⟨a, v1, v2, rfl, hXa, ⟨o, hob, r⟩, d1, d2⟩ := den_pair dv
  obtain ⟨l, hl⟩ := hlist _ _ hst
  refine wpAny_letOwnedTupleGo_listiter hl ⟨rfl, ?_⟩
  have hk1 := kindOf_comp hE hn1 (clOf env scope.names []) C
  have hk2 := kindOf_comp hE hn2 (clOf env scope.names []) C
  have hp : ((compEnvC scope (clOf env scope.names []) C env).scope.kind == .class || ((compEnvC scope (clOf env scope.names []) C env).scope.kind == .module && (compEnvC scope (clOf env scope.names []) C env).locals != (compEnvC scope (clOf env scope.names []) C env).globals)) = false := by
    simp [compEnvC, relabel, x.kind]
  refine wpAny_assign_Tuple hh ⟨o, hgr _ _ hob, r⟩ rfl rfl fun h₁ hx₁ => ?_
  have g₁ : Grow s₃.heap h₁ := fun b o e => hx₁ b o (ne_of_get (get_new _) e) e
  refine wpAny_assignInOrder_more (wpAny_assign_Name (wpAny_storeName_local hk1 (hns.keeps g₁) (fun h₂ hn₂ hs₂ => ?_) hp))
  refine wpAny_assignInOrder_more (wpAny_assign_Name (wpAny_storeName_local hk2 hn₂ (fun h₃ hn₃ hs₃ => ?_) hp))
  have g₃ : ∀ b ob, b ≠ C → s₃.heap.get? b = some ob → h₃.get? b = some ob := fun b ob hb e => hs₃.extBut b ob hb (hs₂.extBut b ob hb (g₁ b ob e))
  refine wpAny_assignInOrder_none ⟨h₃, s₃.toks + 1 + 1, _, rfl, Nat.le_add_right _ 2, hn₃, g₃, ?_⟩
  have g₀ : Grow h0 h₃ := fun b ob e => g₃ b ob (ne_of_get hC e) (hgr _ _ e)
  have g₂ : Grow s₁.heap h₃ := hh0.trans g₀
  have J := x.slots (C := C) hE I1
  have J2 : EInv mg mb hG (compEnvC scope (clOf env scope.names []) C env) nm X α (upd (upd (inner σ vis) i (.val p)) j (.val q)) { s₃ with heap := h₃, toks := s₃.toks + 1 + 1 } :=
    ⟨J.bas.grow g₂, Nat.le_trans J.tok (Nat.le_trans hn0 (Nat.le_trans htk (Nat.le_add_right _ 2))), J.live.grow g₂, slot_upd (P := SlotOk (compEnvC scope (clOf env scope.names []) C env) nm X α h₃) (i := j) (v := .val q) ⟨v2, look_local (hnm2 ▸ hk2) hn₃ (by simp [hnm2]), d2.mono g₀.mono⟩
      (slot_upd (i := i) (v := .val p) ⟨v1, look_local (hnm1 ▸ hk1) hn₃ (by simp [hnm1, hne]), d1.mono g₀.mono⟩ fun y => (J.slots y).grow g₂)⟩
  refine wpAny_tests_one (tst J2 he hb fun s' k' => ⟨?_, k', fun r hr => ?_⟩)
  · cases b <;> rfl
  · cases b with
    | false => exact nope hr
    | true => exact wpAny_Constant_int ⟨kp_toks _ 1, (Option.some.inj hr : D.int 1 = r) ▸ den_int⟩

variable {elt it : Expr} {ce ci : Mine.E}

theorem small_list {n : Nat} (h : n ≤ lim) : n ≤ sizeLine := by rw [← lim_eq]; exact h

theorem rangeL_small {l : Int} (h : l ≤ 1000000) : (rangeL l).length ≤ sizeLine := by
  unfold rangeL
  rw [List.length_map, List.length_range, sizeLine_eq]
  exact Nat.le_trans (Int.toNat_le.mpr h) (Nat.le_of_ble_eq_true rfl)
theorem fresh_of {X : Addr → Prop} {h h' : Heap} {D' : Addr} (l : Alive X h) (g : Grow h h') (hD : h'.objs.size ≤ D') : ¬ X D' := fun hx => let ⟨_, e⟩ := l D' hx; absurd (Heap.lt_size (g _ _ e)) (Nat.not_lt.mpr hD)
theorem none_of {h h' : Heap} {C : Addr} (g : Grow h h') (hC : h'.objs.size ≤ C) : h.get? C = none := by
  cases e : h.get? C with
  | none => rfl
  | some o => exact absurd (Heap.lt_size (g _ _ e)) (Nat.not_lt.mpr hC)
theorem close_ok {X : Addr → Prop} {s s1 s2 : Shared} {h0 h' : Heap} {D' : Addr} {ys : Array Value} {r : List D} {d' : D} {tk : Nat} {Q : Value → Shared → Prop} (hq : ∀ v s', Kp s s' → Den s'.heap X d' v → Q v s') (k1 : Kp s s1) (hr : .list r = d') (k2 : Kp s1 s2) (l : Alive X s1.heap) (hD : s2.heap.objs.size ≤ D')
    (g1 : Grow s1.heap h0) (g : Grow h0 h') (ht : s2.toks ≤ tk) (hl : h'.PlainList D' ys) (q : DenL h' X r ys.toList) : Q (.ref D') { s2 with heap := h', toks := tk } := by
  subst hr
  have hX : ¬ X D' := fresh_of l k2.grow hD
  obtain ⟨⟨h₂, t₂, rfl, g₂⟩, ht₂⟩ := k2
  exact hq _ _ (k1.trans ⟨⟨h', tk, rfl, g1.trans g⟩, Nat.le_trans ht₂ ht⟩) ⟨D', ys, rfl, hX, hl, q⟩

section
variable {n : Str} {i : Nat} {p pos : Pos} (hh : A.handled = none) (x : InnerOk env scope vis nm) (hE : EnvOk env) (hc : CellsOk env) (hn : scope.names.lookup n = some .local) (hnm : nm i = n) (hi : Snd prog w mg mb hG A Φ nm env it ci)
include hh x hE hc hn hnm hi

theorem snd_comp (hs : ∀ x, foldedSetIterable it env x = pure x) (he : ∀ C, Snd prog w mg mb hG A Φ nm (compEnvC scope (clOf env scope.names []) C env) elt ce) :
    Snd prog w mg mb hG A Φ nm env (.ListComp elt [⟨.Name n p, it, [], 0⟩] scope pos) (.comp i vis ce ci) := by
  intro m X α σ s d I e
  refine mg_fin e (fun _ => rfl) fun d' e => comp_k e fun l h1 hlen r h2 hr Q E hq => comp_eval (x.closure hc) x.cell x.kind x.names hs (evB hi I h1 fun v s1 k1 I1 p1 => ?_)
  obtain ⟨a, vs, rfl, hl, q⟩ := denB_list p1
  exact src_list hh hl q fun It fp P St s2 k2 S hst hIt hIt' hlist _ => ⟨s1.heap, X, It, l, r, fp, P, St, _, rfl, S, small_list hlen, h2, k2.grow, hst, hIt,
    fun C hC => turn_name x hE hn hnm (he C) I1 (Grow.refl _) k2.2 (none_of k2.grow hC), fun D' h' tk ys hD g ht hl' q' => close_ok hq k1 hr k2 I1.live hD (Grow.refl _) g ht hl' q'⟩

theorem snd_compr {r : Str} {rp rpos : Pos} (pi : plainE it = true) (hr : r = "range") (hk : env.kindOf r = some .globalImplicit) (hb : Built mg mb) (he : ∀ C, Snd prog w mg mb hG A Φ nm (compEnvC scope (clOf env scope.names []) C env) elt ce) :
    Snd prog w mg mb hG A Φ nm env (.ListComp elt [⟨.Name n p, .Call (.Name r rp) [it] [] rpos, [], 0⟩] scope pos) (.compr i vis ce ci) := by
  intro m X α σ s d I e
  subst hr
  refine mg_fin e (fun _ => rfl) fun d' e => compr_k e fun l h1 hlen r h2 hr Q E hq => comp_eval (x.closure hc) x.cell x.kind x.names (fun _ => rfl)
    (Call_ (eval_built hE (by decide +kernel) hk I.bas hb.range (callWith_type1 (wpAny_items_cons (ev1 hi I h1 fun v s1 k1 I1 p1 => wpAny_items_nil ?_) (starEach_plain pi)) (starEach_plain pi) rfl)) rfl)
  obtain ⟨t, rfl⟩ := den_int_inv p1
  exact src_range (X := X) hh hlen.1 hlen.2 fun h0 It fp P St s2 k2 g1 g2 S hst hIt hIt' _ _ => ⟨h0, X, It, _, r, fp, P, St, _, rfl, S, rangeL_small hlen.2, h2, g2, hst, hIt,
    fun C hC => turn_name x hE hn hnm (he C) I1 g1 k2.2 (none_of g2 hC), fun D' h' tk ys hD g ht hl' q' => close_ok hq k1 hr k2 I1.live hD g1 g ht hl' q'⟩

theorem snd_compc {cond : Expr} {cc : Mine.E} {n2 : Str} {j : Nat} {p2 : Pos} {kk : Nat} {tp : Pos} {ck : Nat} {cp : Pos}
    (hn2 : scope.names.lookup n2 = some .local) (hnm2 : nm j = n2) (hne : n ≠ n2) (hs : ∀ x, foldedSetIterable it env x = pure x) (he : ∀ C, Snd prog w mg mb hG A Φ nm (compEnvC scope (clOf env scope.names []) C env) cond cc) :
    Snd prog w mg mb hG A Φ nm env (.ListComp (.Constant (.int 1) ck cp) [⟨.Tuple [.Name n p, .Name n2 p2] kk tp, it, [cond], 0⟩] scope pos) (.compc i j vis cc ci) := by
  intro m X α σ s d I e
  refine mg_fin e (fun _ => rfl) fun d' e => comp_k e fun l h1 hlen r h2 hr Q E hq => comp_eval (x.closure hc) x.cell x.kind x.names hs (evB hi I h1 fun v s1 k1 I1 p1 => ?_)
  obtain ⟨a, vs, rfl, hl, q⟩ := denB_list p1
  exact src_list hh hl q fun It fp P St s2 k2 S hst hIt hIt' hlist _ => ⟨s1.heap, X, It, l, r, fp, P, St, _, rfl, S, small_list hlen, h2, k2.grow, hst, hIt,
    fun C hC => turn_pair hh (fun i h z => ⟨a, hlist i h z⟩) x hE hn hn2 hnm hnm2 hne (he C) I1 (Grow.refl _) k2.2 (none_of k2.grow hC), fun D' h' tk ys hD g ht hl' q' => close_ok hq k1 hr k2 I1.live hD (Grow.refl _) g ht hl' q'⟩
end

end
end Mine
end

/-! S13 -/
section
open PySem PySem.W PyProof.Rows
set_option maxRecDepth 4000
set_option genInjectivity false
set_option genSizeOf false

namespace Mine
theorem okE_plain {e : Expr} (h : okE e = true) : plainE e = true := by
  cases e with
  | Starred => exact Bool.noConfusion h
  | _ => rfl
theorem okE_marks {e : Expr} {op : CmpOp} (h : okE e = true) : behindInMarks op e = false := by
  cases e with
  | Set => exact Bool.noConfusion h
  | _ => rfl
theorem okE_notSlice {e : Expr} (h : okE e = true) : notSlice e = true := by
  cases e with
  | Slice => exact Bool.noConfusion h
  | _ => rfl
theorem okE_fold {e : Expr} {env : Env} (h : okE e = true) (x : Value) : foldedSetIterable e env x = pure x := by
  cases e with
  | Set => exact Bool.noConfusion h
  | _ => rfl

theorem idx_at {ns : List Str} {x : Str} {i : Nat} (h : ns.idxOf? x = some i) : ∃ hi : i < ns.length, (ns[i] == x) = true := by
  rw [List.idxOf?, List.findIdx?_eq_some_iff_getElem] at h
  exact ⟨h.1, h.2.1⟩
theorem nmAt_of {ns : List Str} {x : Str} {i : Nat} (h : ns.idxOf? x = some i) : nmAt ns i = x := by
  unfold nmAt
  rw [List.idxOf?, List.findIdx?_eq_some_iff_getElem] at h
  obtain ⟨hi, he, _⟩ := h
  rw [List.getD_eq_getElem?_getD, List.getElem?_eq_getElem hi]
  simpa using he

theorem innerOk_of {ns : List Str} {scope : Scope} {env : Env} {x : Str} (hk : scope.kind = .function) (h : innerOk scope.names env.scope.names x = true) : InnerOk env scope (visOf ns scope.names) (nmAt ns) ∧ scope.names.lookup x = some .local := by
  unfold innerOk at h
  simp only [Bool.and_eq_true, List.all_eq_true, beq_iff_eq, bne_iff_ne, Bool.or_eq_true] at h
  obtain ⟨⟨⟨h1, h2⟩, h3⟩, h4⟩ := h
  refine ⟨⟨hk, fun y hy => h1 y hy, fun y hy hl => ?_, fun p hp hf => ?_, fun y hy => ?_⟩, h3⟩
  · rcases h2 y hy with h | h
    · exact absurd hl h
    · exact h
  · rcases h4 p hp with h | h
    · exact absurd hf h
    · exact h
  · unfold visOf at hy
    rw [List.contains_iff_mem, List.mem_filterMap] at hy
    obtain ⟨p, hp, e⟩ := hy
    split at e
    · rename_i hf
      rw [nmAt_of e]
      rcases h4 p hp with h | h
      · exact absurd (by simpa using hf) h
      · exact h.2
    · cases e


/-! a code with its proof -/
section
variable {α β γ δ : Type} {P : α → Prop} {Q : β → Prop} {R : γ → Prop} {T : δ → Prop}
noncomputable def m1 (x : Option { a // P a }) (f : α → δ) (h : ∀ {a}, P a → T (f a)) : Option { d // T d } := match x with
  | some a => some ⟨f a.1, h a.2⟩
  | none => none
noncomputable def m2 (x : Option { a // P a }) (y : Option { b // Q b }) (f : α → β → δ) (h : ∀ {a b}, P a → Q b → T (f a b)) : Option { d // T d } := match x with
  | some a => m1 y (f a.1) (h a.2)
  | none => none
noncomputable def m3 (x : Option { a // P a }) (y : Option { b // Q b }) (z : Option { c // R c }) (f : α → β → γ → δ) (h : ∀ {a b c}, P a → Q b → R c → T (f a b c)) : Option { d // T d } := match x with
  | some a => m2 y z (f a.1) (h a.2)
  | none => none
noncomputable def gate (b : Bool) (x : b = true → Option { d // T d }) : Option { d // T d } := match b, x with
  | true, x => x rfl
  | false, _ => none
noncomputable def ix (o : Option Nat) (x : ∀ i, o = some i → Option { d // T d }) : Option { d // T d } := match o, x with
  | some i, x => x i rfl
  | none, _ => none
theorem val_of {x : Option { d // T d }} {d : δ} (h : x.map Subtype.val = some d) : T d := by
  cases x with
  | none => exact nope h
  | some a => exact Option.some.inj h ▸ a.2
end

/-- what the codes rest on -/
structure CC where
  prog : Program
  w : World
  mg : Str → Option Value
  mb : Str → Option Value
  hG : Heap
  A : Around
  Φ : Str → List D → Option D
  k : Nat
  hA : OkA k A
  hu : A.units < cLine
  hb : Built mg mb
  F : ∀ f, FSpec prog w mg mb hG k f (Φ f)

namespace CC
variable (C : CC) (ns : List Str)
noncomputable abbrev Sn (env : Env) (e : Expr) (c : E) : Prop := Snd C.prog C.w C.mg C.mb C.hG C.A C.Φ (nmAt ns) env e c
/-- a code is right wherever the names are these -/
structure Cert (sc : List (Str × NameKind)) (e : Expr) (c : E) : Prop where
  ok : okE e = true
  sn : ∀ env, EnvOk env → CellsOk env → env.scope.names = sc → C.Sn ns env e c
noncomputable def Part (sc : List (Str × NameKind)) (e : Option Expr) (c : E) : Prop := match e with
  | none => c = .none
  | some e => C.Cert ns sc e c

section
variable {C ns} {sc : List (Str × NameKind)} {o o2 : CmpOp} {op : Operator} {e a b d : Expr} {ca cb cd : E} {x y z : Str} {i j k : Nat} {p p1 p2 p3 p4 p5 : Pos}
theorem c_name (h1 : (!(x == ("__debug__" : Str))) = true) (h2 : ns.idxOf? x = some i) : C.Cert ns sc (.Name x p) (.var i) := ⟨rfl, fun _ hE _ _ => snd_var hE (Bool.not_eq_true' _ |>.mp h1) (nmAt_of h2)⟩
theorem c_none : C.Cert ns sc (.Constant .none k p) .none := ⟨rfl, fun _ _ _ _ => snd_none⟩
theorem c_bool {b} : C.Cert ns sc (.Constant (.bool b) k p) (.bool b) := ⟨rfl, fun _ _ _ _ => snd_bool⟩
theorem c_int {b} : C.Cert ns sc (.Constant (.int b) k p) (.int b) := ⟨rfl, fun _ _ _ _ => snd_int⟩
theorem c_str {b} : C.Cert ns sc (.Constant (.str b) k p) (.str (strL b)) := ⟨rfl, fun _ _ _ _ => snd_str⟩
theorem c_neg {b} : C.Cert ns sc (.UnaryOp .USub (.Constant (.int b) k p) p1) (.int (-b)) := ⟨rfl, fun _ _ _ _ => snd_neg⟩
variable (ha : C.Cert ns sc a ca) (hb : C.Cert ns sc b cb) (hd : C.Cert ns sc d cd)
include ha
theorem c_not : C.Cert ns sc (.UnaryOp .Not a p) (.not ca) := ⟨rfl, fun v h1 h2 h3 => snd_not (ha.sn v h1 h2 h3)⟩
theorem c_lst1 : C.Cert ns sc (.List [a] p) (.lst1 ca) := ⟨rfl, fun v h1 h2 h3 => snd_lst1 (okE_plain ha.ok) (ha.sn v h1 h2 h3)⟩
theorem c_join (hm : (y == ("join" : Str)) = true) (hl : (p1.endLine == p2.line) = true) : C.Cert ns sc (.Call (.Attribute (.Constant (.str x) k p) y p1) [a] [] p2) (.join (strL x) ca) :=
  eq_of_beq hm ▸ ⟨rfl, fun v h1 h2 h3 => snd_join hl (okE_plain ha.ok) (ha.sn v h1 h2 h3)⟩
theorem c_call1 (hx : (!(x == ("__debug__" : Str))) = true) (hk : (sc.lookup x == some .globalImplicit) = true) : C.Cert ns sc (.Call (.Name x p) [a] [] p1) (.call1 x ca) :=
  ⟨rfl, fun v h1 h2 h3 => snd_call1 (okE_plain ha.ok) h1 (Bool.not_eq_true' _ |>.mp hx) (by rw [← h3] at hk; exact eq_of_beq hk) (C.F _) C.hA (ha.sn v h1 h2 h3)⟩
theorem c_len (hm : (x == ("len" : Str)) = true) (hk : (sc.lookup x == some .globalImplicit) = true) : C.Cert ns sc (.Call (.Name x p) [a] [] p1) (.len ca) :=
  (eq_of_beq hm : x = _) ▸ ⟨rfl, fun v h1 h2 h3 => len_snd (okE_plain ha.ok) h1 (by rw [← h3, eq_of_beq hm] at hk; exact eq_of_beq hk) C.hb (ha.sn v h1 h2 h3)⟩
theorem c_chr (hm : (x == ("chr" : Str)) = true) (hk : (sc.lookup x == some .globalImplicit) = true) : C.Cert ns sc (.Call (.Name x p) [a] [] p1) (.chr ca) :=
  (eq_of_beq hm : x = _) ▸ ⟨rfl, fun v h1 h2 h3 => chr_snd (okE_plain ha.ok) h1 (by rw [← h3, eq_of_beq hm] at hk; exact eq_of_beq hk) C.hb (ha.sn v h1 h2 h3)⟩
include hb
theorem c_bin : C.Cert ns sc (.BinOp a op b p) (.bin op ca cb) := ⟨rfl, fun v h1 h2 h3 => snd_bin (ha.sn v h1 h2 h3) (hb.sn v h1 h2 h3)⟩
theorem c_and : C.Cert ns sc (.BoolOp .And [a, b] p) (.and ca cb) := ⟨rfl, fun v h1 h2 h3 => snd_and (ha.sn v h1 h2 h3) (hb.sn v h1 h2 h3)⟩
theorem c_or : C.Cert ns sc (.BoolOp .Or [a, b] p) (.or ca cb) := ⟨rfl, fun v h1 h2 h3 => snd_or (ha.sn v h1 h2 h3) (hb.sn v h1 h2 h3)⟩
theorem c_cmp : C.Cert ns sc (.Compare a [o] [b] p) (.cmp o ca cb) := ⟨rfl, fun v h1 h2 h3 => snd_cmp (ha.sn v h1 h2 h3) (hb.sn v h1 h2 h3) C.hu (okE_marks hb.ok)⟩
theorem c_tup2 : C.Cert ns sc (.Tuple [a, b] k p) (.tup2 ca cb) := ⟨rfl, fun v h1 h2 h3 => snd_tup2 (okE_plain ha.ok) (okE_plain hb.ok) (ha.sn v h1 h2 h3) (hb.sn v h1 h2 h3)⟩
theorem c_lst2 : C.Cert ns sc (.List [a, b] p) (.lst2 ca cb) := ⟨rfl, fun v h1 h2 h3 => snd_lst2 (okE_plain ha.ok) (okE_plain hb.ok) (ha.sn v h1 h2 h3) (hb.sn v h1 h2 h3)⟩
theorem c_idx : C.Cert ns sc (.Subscript a b p) (.idx ca cb) := ⟨rfl, fun v h1 h2 h3 => snd_idx (okE_notSlice hb.ok) (ha.sn v h1 h2 h3) (hb.sn v h1 h2 h3)⟩
theorem c_call2 (hx : (!(x == ("__debug__" : Str))) = true) (hk : (sc.lookup x == some .globalImplicit) = true) : C.Cert ns sc (.Call (.Name x p) [a, b] [] p1) (.call2 x ca cb) :=
  ⟨rfl, fun v h1 h2 h3 => snd_call2 (okE_plain ha.ok) (okE_plain hb.ok) h1 (Bool.not_eq_true' _ |>.mp hx) (by rw [← h3] at hk; exact eq_of_beq hk) (C.F _) C.hA (ha.sn v h1 h2 h3) (hb.sn v h1 h2 h3)⟩
include hd
theorem c_ite : C.Cert ns sc (.IfExp a b d p) (.ite ca cb cd) := ⟨rfl, fun v h1 h2 h3 => snd_ite (ha.sn v h1 h2 h3) (hb.sn v h1 h2 h3) (hd.sn v h1 h2 h3)⟩
theorem c_cmp3 : C.Cert ns sc (.Compare a [o, o2] [b, d] p) (.cmp3 o o2 ca cb cd) := ⟨rfl, fun v h1 h2 h3 => snd_cmp3 (ha.sn v h1 h2 h3) (hb.sn v h1 h2 h3) (hd.sn v h1 h2 h3) C.hu (okE_marks hb.ok) (okE_marks hd.ok)⟩
theorem c_tup3 : C.Cert ns sc (.Tuple [a, b, d] k p) (.tup3 ca cb cd) := ⟨rfl, fun v h1 h2 h3 => snd_tup3 (okE_plain ha.ok) (okE_plain hb.ok) (okE_plain hd.ok) (ha.sn v h1 h2 h3) (hb.sn v h1 h2 h3) (hd.sn v h1 h2 h3)⟩
theorem c_call3 (hx : (!(x == ("__debug__" : Str))) = true) (hk : (sc.lookup x == some .globalImplicit) = true) : C.Cert ns sc (.Call (.Name x p) [a, b, d] [] p1) (.call3 x ca cb cd) :=
  ⟨rfl, fun v h1 h2 h3 => snd_call3 (okE_plain ha.ok) (okE_plain hb.ok) (okE_plain hd.ok) h1 (Bool.not_eq_true' _ |>.mp hx) (by rw [← h3] at hk; exact eq_of_beq hk) (C.F _) C.hA (ha.sn v h1 h2 h3) (hb.sn v h1 h2 h3) (hd.sn v h1 h2 h3)⟩
end
section
variable {C ns} {sc : List (Str × NameKind)} {e a b : Expr} {ca cb cl ch : E} {v m x y z : Str} {i j k k1 k2 : Nat} {p p1 p2 p3 p4 p5 p6 : Pos} {lo up : Option Expr}
theorem part_at (h : C.Part ns sc lo cl) {env : Env} (h1 : EnvOk env) (h2 : CellsOk env) (h3 : env.scope.names = sc) : match (generalizing := false) lo with | none => cl = .none | some e => C.Sn ns env e cl := by
  cases lo with
  | none => exact h
  | some e => exact Cert.sn h env h1 h2 h3
theorem c_slc (ha : C.Cert ns sc (.Name v p) ca) (hl : C.Part ns sc lo cl) (hh : C.Part ns sc up ch) : C.Cert ns sc (.Subscript (.Name v p) (.Slice lo up none p1) p2) (.slc ca cl ch) :=
  ⟨rfl, fun v h1 h2 h3 => snd_slc (ha.sn v h1 h2 h3) (part_at hl h1 h2 h3) (part_at hh h1 h2 h3)⟩
theorem c_rev (ha : C.Cert ns sc (.Name v p) ca) {q : Int} (hq : (q == 1) = true) : C.Cert ns sc (.Subscript (.Name v p) (.Slice none none (some (.UnaryOp .USub (.Constant (.int q) k p1) p2)) p3) p4) (.rev ca) :=
  eq_of_beq hq ▸ ⟨rfl, fun v h1 h2 h3 => snd_rev (ha.sn v h1 h2 h3)⟩
theorem c_repl (ha : C.Cert ns sc (.Name v p) ca) (hm : (m == ("replace" : Str)) = true) (hl : (p1.endLine == p4.line) = true) : C.Cert ns sc (.Call (.Attribute (.Name v p) m p1) [.Constant (.str y) k1 p2, .Constant (.str z) k2 p3] [] p4) (.repl ca (strL y) (strL z)) :=
  eq_of_beq hm ▸ ⟨rfl, fun v h1 h2 h3 => snd_repl hl (ha.sn v h1 h2 h3)⟩
theorem c_find (ha : C.Cert ns sc (.Name v p) ca) (hb : C.Cert ns sc a cl) (hc : C.Cert ns sc b ch) (hm : (m == ("find" : Str)) = true) (hl : (p1.endLine == p4.line) = true) (hy : (strL y == [(strL y).headD 0]) = true) : C.Cert ns sc (.Call (.Attribute (.Name v p) m p1) [.Constant (.str y) k1 p2, a, b] [] p4) (.find ca ((strL y).headD 0) cl ch) :=
  eq_of_beq hm ▸ ⟨rfl, fun v h1 h2 h3 => snd_find hl (eq_of_beq hy) (okE_plain hb.ok) (okE_plain hc.ok) (ha.sn v h1 h2 h3) (hb.sn v h1 h2 h3) (hc.sn v h1 h2 h3)⟩
theorem c_cat (ha : C.Cert ns sc (.Name v p) ca) {q : Int} (hq : (q == -1) = true) : C.Cert ns sc (.JoinedStr [.Constant (.str x) k1 p1, .FormattedValue (.Name v p) q none p2, .Constant (.str y) k2 p3] p4) (.cat3 (.str (strL x)) ca (.str (strL y))) :=
  eq_of_beq hq ▸ ⟨rfl, fun v h1 h2 h3 => snd_cat3 (ha.sn v h1 h2 h3)⟩

/-- the inner block's code, seen from without -/
theorem inner_at {s : Scope} (hk : (s.kind == .function) = true) (hi : innerOk s.names sc x = true) (ih : C.Cert ns (kindsIn s.names sc) e ca) {env : Env} (hE : EnvOk env) (hc : CellsOk env) (hs : env.scope.names = sc) :
    (InnerOk env s (visOf ns s.names) (nmAt ns) ∧ s.names.lookup x = some .local) ∧ ∀ D, C.Sn ns (compEnvC s (clOf env s.names []) D env) e ca := by
  subst hs
  have io := innerOk_of (ns := ns) (eq_of_beq hk) hi
  refine ⟨io, fun D => ih.sn _ (io.1.envOk hE _ _) (io.1.cellsOk hE hc D) ?_⟩
  show (relabel s env).names = _
  rw [relabel_names hE.1]
section
variable {s : Scope} {q : Int} (hq : (q == 0) = true) (hk : (s.kind == .function) = true) (hi : innerOk s.names sc x = true) (hx : ns.idxOf? x = some i) (ih : C.Cert ns (kindsIn s.names sc) e ca) (hb : C.Cert ns sc b cb)
include hq hk hi hx ih hb
theorem c_comp : C.Cert ns sc (.ListComp e [⟨.Name x p, b, [], q⟩] s p1) (.comp i (visOf ns s.names) ca cb) :=
  eq_of_beq hq ▸ ⟨rfl, fun v h1 h2 h3 => let z := inner_at hk hi ih h1 h2 h3; snd_comp C.hA.1 z.1.1 h1 h2 z.1.2 (nmAt_of hx) (hb.sn v h1 h2 h3) (okE_fold hb.ok) z.2⟩
theorem c_compr (hr : (y == ("range" : Str)) = true) (hl : (sc.lookup y == some .globalImplicit) = true) : C.Cert ns sc (.ListComp e [⟨.Name x p, .Call (.Name y p2) [b] [] p3, [], q⟩] s p1) (.compr i (visOf ns s.names) ca cb) :=
  eq_of_beq hq ▸ ⟨rfl, fun v h1 h2 h3 => let z := inner_at hk hi ih h1 h2 h3; snd_compr C.hA.1 z.1.1 h1 h2 z.1.2 (nmAt_of hx) (hb.sn v h1 h2 h3) (okE_plain hb.ok) (eq_of_beq hr) (by rw [← h3] at hl; exact eq_of_beq hl) C.hb z.2⟩
theorem c_compc {o : Int} (ho : (o == 1) = true) (hi2 : innerOk s.names sc y = true) (hy : ns.idxOf? y = some j) (hxy : (x != y) = true) : C.Cert ns sc (.ListComp (.Constant (.int o) k p5) [⟨.Tuple [.Name x p, .Name y p2] k2 p3, b, [e], q⟩] s p1) (.compc i j (visOf ns s.names) ca cb) :=
  eq_of_beq hq ▸ eq_of_beq ho ▸ ⟨rfl, fun v h1 h2 h3 => let z := inner_at hk hi ih h1 h2 h3; snd_compc C.hA.1 z.1.1 h1 h2 z.1.2 (nmAt_of hx) (hb.sn v h1 h2 h3) (inner_at hk hi2 ih h1 h2 h3).1.2 (nmAt_of hy) (bne_iff_ne.mp hxy) (okE_fold hb.ok) z.2⟩
end
end

section
variable (R : (sc : List (Str × NameKind)) → (e : Expr) → Option { c : E // C.Cert ns sc e c }) (sc : List (Str × NameKind))
noncomputable def part : (e : Option Expr) → Option { c : E // C.Part ns sc e c }
  | none => some ⟨.none, rfl⟩
  | some e => R sc e
noncomputable def cConst (k : Nat) (p : Pos) : (c : Const) → Option { d : E // C.Cert ns sc (.Constant c k p) d }
  | .none => some ⟨_, c_none⟩
  | .bool _ => some ⟨_, c_bool⟩
  | .int _ => some ⟨_, c_int⟩
  | .str _ => some ⟨_, c_str⟩
  | _ => none
noncomputable def cUn (p : Pos) : (o : UnaryOp) → (a : Expr) → Option { d : E // C.Cert ns sc (.UnaryOp o a p) d }
  | .Not, a => m1 (R sc a) _ c_not
  | .USub, .Constant (.int _) _ _ => some ⟨_, c_neg⟩
  | _, _ => none
noncomputable def cBool (p : Pos) : (o : BoolOp) → (l : List Expr) → Option { d : E // C.Cert ns sc (.BoolOp o l p) d }
  | .And, [a, b] => m2 (R sc a) (R sc b) _ c_and
  | .Or, [a, b] => m2 (R sc a) (R sc b) _ c_or
  | _, _ => none
noncomputable def cCmp (a : Expr) (p : Pos) : (o : List CmpOp) → (l : List Expr) → Option { d : E // C.Cert ns sc (.Compare a o l p) d }
  | [_], [b] => m2 (R sc a) (R sc b) _ c_cmp
  | [_, _], [b, d] => m3 (R sc a) (R sc b) (R sc d) _ c_cmp3
  | _, _ => none
noncomputable def cTup (k : Nat) (p : Pos) : (l : List Expr) → Option { d : E // C.Cert ns sc (.Tuple l k p) d }
  | [a, b] => m2 (R sc a) (R sc b) _ c_tup2
  | [a, b, d] => m3 (R sc a) (R sc b) (R sc d) _ c_tup3
  | _ => none
noncomputable def cList (p : Pos) : (l : List Expr) → Option { d : E // C.Cert ns sc (.List l p) d }
  | [] => some ⟨.lst0, rfl, fun _ _ _ _ => snd_lst0⟩
  | [a] => m1 (R sc a) _ c_lst1
  | [a, b] => m2 (R sc a) (R sc b) _ c_lst2
  | _ => none
noncomputable def cSub (p : Pos) : (a i : Expr) → Option { d : E // C.Cert ns sc (.Subscript a i p) d }
  | .Name v q, .Slice lo hi none _ => m3 (R sc (.Name v q)) (part C ns R sc lo) (part C ns R sc hi) _ c_slc
  | .Name v q, .Slice none none (some (.UnaryOp .USub (.Constant (.int i) _ _) _)) _ => gate (i == 1) fun h => m1 (R sc (.Name v q)) _ fun z => c_rev z h
  | a, i => m2 (R sc a) (R sc i) _ c_idx
noncomputable def cCallN (f : Str) (p p1 : Pos) (hx : (!(f == ("__debug__" : Str))) = true) (hk : (sc.lookup f == some .globalImplicit) = true) : (l : List Expr) → Option { d : E // C.Cert ns sc (.Call (.Name f p) l [] p1) d }
  | [a] => match h : f == ("len" : Str) with
    | true => m1 (R sc a) _ fun z => c_len z h hk
    | false => match h : f == ("chr" : Str) with
      | true => m1 (R sc a) _ fun z => c_chr z h hk
      | false => m1 (R sc a) _ fun z => c_call1 z hx hk
  | [a, b] => m2 (R sc a) (R sc b) _ fun y z => c_call2 y z hx hk
  | [a, b, d] => m3 (R sc a) (R sc b) (R sc d) _ fun x y z => c_call3 x y z hx hk
  | _ => none
noncomputable def cMeth (m : Str) (p1 p2 : Pos) (hl : (p1.endLine == p2.line) = true) : (o : Expr) → (l : List Expr) → Option { d : E // C.Cert ns sc (.Call (.Attribute o m p1) l [] p2) d }
  | .Constant (.str _) _ _, [a] => gate (m == ("join" : Str)) fun h => m1 (R sc a) _ fun z => c_join z h hl
  | .Name v p, [.Constant (.str y) _ _, .Constant (.str z) _ _] => gate (m == ("replace" : Str)) fun h => m1 (R sc (.Name v p)) (fun c => .repl c (strL y) (strL z)) fun z => c_repl z h hl
  | .Name v p, [.Constant (.str y) _ _, a, b] => gate (m == ("find" : Str)) fun h => gate (strL y == [(strL y).headD 0]) fun hy => m3 (R sc (.Name v p)) (R sc a) (R sc b) (fun c k j => .find c ((strL y).headD 0) k j) fun x y z => c_find x y z h hl hy
  | _, _ => none
noncomputable def cCall (p : Pos) (l : List Expr) : (f : Expr) → Option { d : E // C.Cert ns sc (.Call f l [] p) d }
  | .Name f p1 => gate (!(f == ("__debug__" : Str))) fun hx => gate (sc.lookup f == some .globalImplicit) fun hk => cCallN C ns R sc f p1 p hx hk l
  | .Attribute o m p1 => gate (p1.endLine == p.line) fun hl => cMeth C ns R sc m p1 p hl o l
  | _ => none
noncomputable def cJoined (p : Pos) : (l : List Expr) → Option { d : E // C.Cert ns sc (.JoinedStr l p) d }
  | [.Constant (.str x) _ _, .FormattedValue (.Name v p2) q none _, .Constant (.str y) _ _] => gate (q == -1) fun h => m1 (R sc (.Name v p2)) (fun c => .cat3 (.str (strL x)) c (.str (strL y))) fun z => c_cat z h
  | _ => none
noncomputable def cLoop (e : Expr) (s : Scope) (p p1 : Pos) (x : Str) (q : Int) (hq : (q == 0) = true) (hk : (s.kind == .function) = true) (hi : innerOk s.names sc x = true) (i : Nat) (hx : ns.idxOf? x = some i) : (b : Expr) → Option { d : E // C.Cert ns sc (.ListComp e [⟨.Name x p, b, [], q⟩] s p1) d }
  | .Call (.Name r _) [m] [] _ => gate (r == ("range" : Str)) fun hr => gate (sc.lookup r == some .globalImplicit) fun hl => m2 (R (kindsIn s.names sc) e) (R sc m) (fun c m => .compr i (visOf ns s.names) c m) fun y z => c_compr hq hk hi hx y z hr hl
  | b => m2 (R (kindsIn s.names sc) e) (R sc b) (fun c m => .comp i (visOf ns s.names) c m) fun y z => c_comp hq hk hi hx y z
noncomputable def cComp (e : Expr) (s : Scope) (p1 : Pos) (hk : (s.kind == .function) = true) : (l : List Comprehension) → Option { d : E // C.Cert ns sc (.ListComp e l s p1) d }
  | [⟨.Name x p, b, [], q⟩] => gate (q == 0) fun hq => gate (innerOk s.names sc x) fun hi => ix (ns.idxOf? x) fun i hx => cLoop C ns R sc e s p p1 x q hq hk hi i hx b
  | [⟨.Tuple [.Name x _, .Name y _] _ _, b, [c], q⟩] => match e with
    | .Constant (.int o) _ _ => gate (o == 1) fun ho => gate (q == 0) fun hq => gate (innerOk s.names sc x) fun hi => gate (innerOk s.names sc y) fun hi2 => gate (x != y) fun hxy => ix (ns.idxOf? x) fun i hx => ix (ns.idxOf? y) fun j hy =>
      m2 (R (kindsIn s.names sc) c) (R sc b) (fun c m => .compc i j (visOf ns s.names) c m) fun t z => c_compc hq hk hi hx t z ho hi2 hy hxy
    | _ => none
  | _ => none
noncomputable def cOne : (e : Expr) → Option { c : E // C.Cert ns sc e c }
  | .Name x _ => gate (!(x == ("__debug__" : Str))) fun h => ix (ns.idxOf? x) fun i hi => some ⟨.var i, c_name h hi⟩
  | .Constant c k p => cConst C ns sc k p c
  | .UnaryOp o a p => cUn C ns R sc p o a
  | .BinOp a _ b _ => m2 (R sc a) (R sc b) _ c_bin
  | .BoolOp o l p => cBool C ns R sc p o l
  | .IfExp t a b _ => m3 (R sc t) (R sc a) (R sc b) _ c_ite
  | .Compare a o l p => cCmp C ns R sc a p o l
  | .Tuple l k p => cTup C ns R sc k p l
  | .List l p => cList C ns R sc p l
  | .Subscript a i p => cSub C ns R sc p a i
  | .Call f l [] p => cCall C ns R sc p l f
  | .JoinedStr l p => cJoined C ns R sc p l
  | .ListComp e l s p => gate (s.kind == .function) fun hk => cComp C ns R sc e s p hk l
  | _ => none
end
noncomputable def cE : Nat → (sc : List (Str × NameKind)) → (e : Expr) → Option { c : E // C.Cert ns sc e c }
  | 0 => fun _ _ => none
  | n + 1 => fun sc e => cOne C ns (cE n) sc e
end CC
end Mine
end

/-! S14 -/
section
open PySem PySem.W PyProof.Rows
set_option maxRecDepth 4000
set_option genInjectivity false
set_option genSizeOf false

namespace Mine

/-- how a block ends -/
inductive Flw where
  | nxt | brk
  | ret (d : D)

inductive S where
  | set (x : Nat) (e : E)
  | own0 (x : Nat)
  | own1 (x : Nat) (e : E)
  | unp2 (x y : Nat) (e : E)
  | unp3 (x y z : Nat) (e : E)
  | swp (x y : Nat) (a b : E)
  | aug (op : Operator) (x : Nat) (e : E)
  | app (x : Nat) (e : E)
  | ext (x : Nat) (e : E)
  | bnd (x y : Nat)
  | add (x : Nat) (e : E)
  | ife (t : E) (a b : List S)
  | whl (t : E) (b : List S)
  | forl (x : Nat) (it : E) (b : List S)
  | forr (x : Nat) (n : E) (b : List S)
  | ret (e : E)
  | brk
  | asr (t : E)
  | frz (x : Nat)
  | spec (f : Slots → Option Slots)
  | bot

/-- a slot is set; what was bound to it is bound no more -/
noncomputable def put (σ : Slots) (x : Nat) (v : SV) : Slots := fun y => if y = x then v else match σ y with
  | .bound z => if z = x then .un else .bound z
  | s => s
/-- an own list becomes a datum -/
noncomputable def frzS (σ : Slots) (x : Nat) : Slots := match σ x with
  | .own l => put σ x (.val (.list l))
  | _ => σ

/-! steps, by the value's kind -/
noncomputable abbrev Rs := Option (Slots × Flw)
noncomputable def kD (f : D → Rs) : Option D → Rs
  | some d => f d
  | none => none
noncomputable def kL (f : List D → Rs) : Option D → Rs
  | some (.list l) => f l
  | _ => none
noncomputable def kI (f : Int → Rs) : Option D → Rs
  | some (.int l) => f l
  | _ => none
noncomputable def kB (f : Bool → Rs) : Option D → Rs
  | some (.bool l) => f l
  | _ => none
noncomputable def kOwn (f : List D → Rs) : SV → Rs
  | .own l => f l
  | _ => none
section
variable {G : Prop} {o : Option D} {r : Slots × Flw}
theorem kD_k {f : D → Rs} (e : kD f o = some r) (k : ∀ d, o = some d → f d = some r → G) : G := by
  cases o with
  | none => exact nope e
  | some d => exact k d rfl e
theorem kL_k {f : List D → Rs} (e : kL f o = some r) (k : ∀ d, o = some (.list d) → f d = some r → G) : G := by
  cases o with
  | none => exact nope e
  | some d => cases d with
    | list l => exact k l rfl e
    | _ => exact nope e
theorem kI_k {f : Int → Rs} (e : kI f o = some r) (k : ∀ d, o = some (.int d) → f d = some r → G) : G := by
  cases o with
  | none => exact nope e
  | some d => cases d with
    | int l => exact k l rfl e
    | _ => exact nope e
theorem kB_k {f : Bool → Rs} (e : kB f o = some r) (k : ∀ d, o = some (.bool d) → f d = some r → G) : G := by
  cases o with
  | none => exact nope e
  | some d => cases d with
    | bool l => exact k l rfl e
    | _ => exact nope e
theorem kOwn_k {f : List D → Rs} {sv : SV} (e : kOwn f sv = some r) (k : ∀ d, sv = .own d → f d = some r → G) : G := by
  cases sv with
  | own l => exact k l rfl e
  | _ => exact nope e
@[elab_as_elim] theorem pr {G : Slots → Flw → Prop} {a σ' : Slots} {b fl : Flw} (e : (some (a, b) : Rs) = some (σ', fl)) (h : G a b) : G σ' fl :=
  (so2 e).1 ▸ (so2 e).2 ▸ h
end

/-- what follows on a turn of a loop -/
noncomputable def seqL (k : Slots → Rs) : Rs → Rs
  | some (σ', .nxt) => k σ'
  | some (σ', .brk) => some (σ', .nxt)
  | some (σ', .ret d) => some (σ', .ret d)
  | none => none
noncomputable def seqR (f : Slots → Rs) (r : Rs) : Rs := match r with
  | some (σ', .nxt) => f σ'
  | x => x
theorem seqL_hd {k : Slots → Rs} {r : Rs} {q : Slots × Flw} (e : seqL k r = some q) : ∃ q', r = some q' := by
  cases r with
  | none => exact nope e
  | some q' => exact ⟨q', rfl⟩
theorem seqR_hd {k : Slots → Rs} {r : Rs} {q : Slots × Flw} (e : seqR k r = some q) : ∃ q', r = some q' := by
  cases r with
  | none => exact nope e
  | some q' => exact ⟨q', rfl⟩

noncomputable def loopL (f : Slots → Rs) (x : Nat) : List D → Slots → Rs
  | [], σ => some (σ, .nxt)
  | d :: l, σ => seqL (loopL f x l) (f (put σ x (.val d)))
noncomputable def kite (f g : Slots → Rs) (σ : Slots) (t : Option D) : Rs := kB (fun b => bif b then f σ else g σ) t
noncomputable def loopW (t : Slots → Option D) (f : Slots → Rs) : Nat → Slots → Rs
  | 0, _ => none
  | n + 1, σ => kite (fun σ => seqL (loopW t f n) (f σ)) (fun σ => some (σ, .nxt)) σ (t σ)

noncomputable def kset (x : Nat) (σ : Slots) (o : Option D) : Rs := kD (fun d => some (put σ x (.val d), .nxt)) o
noncomputable def kown (x : Nat) (σ : Slots) (o : Option D) : Rs := kD (fun d => some (put σ x (.own [d]), .nxt)) o
noncomputable def kunp2 (x y : Nat) (σ : Slots) : Option D → Rs
  | some (.tup [a, b]) => some (put (put σ x (.val a)) y (.val b), .nxt)
  | _ => none
noncomputable def kunp3 (x y z : Nat) (σ : Slots) : Option D → Rs
  | some (.tup [a, b, c]) => some (put (put (put σ x (.val a)) y (.val b)) z (.val c), .nxt)
  | _ => none
noncomputable def kswp (x y : Nat) (σ : Slots) (a b : Option D) : Rs := kD (fun p => kD (fun q => some (put (put σ y (.val q)) x (.val p), .nxt)) b) a
noncomputable def kaug (op : Operator) (x : Nat) (σ : Slots) (sv : SV) (o : Option D) : Rs := match sv with
  | .val a => kD (fun b => kset x σ (inpD op a b)) o
  | _ => none
noncomputable def kapp (x : Nat) (σ : Slots) (sv : SV) (o : Option D) : Rs := kD (fun d => kOwn (fun l => if l.length ≤ lim then some (upd σ x (.own (l ++ [d])), .nxt) else none) sv) o
noncomputable def kext (x : Nat) (σ : Slots) (sv : SV) (o : Option D) : Rs := kL (fun r => kOwn (fun l => if l.length + r.length ≤ lim then some (upd σ x (.own (l ++ r)), .nxt) else none) sv) o
noncomputable def kbnd (x y : Nat) (σ : Slots) (sv : SV) : Rs := kOwn (fun _ => if x = y then none else some (put σ x (.bound y), .nxt)) sv
noncomputable def kadd (σ : Slots) (sv : SV) (o : Option D) : Rs := match sv with
  | .bound y => kapp y σ (σ y) o
  | _ => none
noncomputable def kfor (f : Slots → Rs) (x : Nat) (σ : Slots) (o : Option D) : Rs := kL (fun l => loopL f x l σ) o
noncomputable def kforr (f : Slots → Rs) (x : Nat) (σ : Slots) (o : Option D) : Rs := kI (fun k => if 0 ≤ k ∧ k ≤ 1000000 then loopL f x (rangeL k) σ else none) o
noncomputable def kret (σ : Slots) (o : Option D) : Rs := kD (fun d => some (σ, .ret d)) o
noncomputable def kasr (σ : Slots) (o : Option D) : Rs := kB (fun b => bif b then some (σ, .nxt) else none) o
noncomputable def kspec : Option Slots → Rs
  | some σ => some (σ, .nxt)
  | none => none
theorem kaug_k {G : Prop} {op : Operator} {x : Nat} {σ : Slots} {sv : SV} {o : Option D} {r : Slots × Flw} (e : kaug op x σ sv o = some r) (k : ∀ a b d, sv = .val a → o = some b → inpD op a b = some d → (some (put σ x (.val d), .nxt) : Rs) = some r → G) : G := by
  cases sv with
  | val a => exact kD_k e fun b h1 e => kD_k e fun d h2 e => k a b d rfl h1 h2 e
  | _ => exact nope e
theorem kadd_k {G : Prop} {σ : Slots} {sv : SV} {o : Option D} {r : Slots × Flw} (e : kadd σ sv o = some r) (k : ∀ y, sv = .bound y → kapp y σ (σ y) o = some r → G) : G := by
  cases sv with
  | bound a => exact k a rfl e
  | _ => exact nope e
theorem tup2_k {G : Prop} {x y : Nat} {σ : Slots} {o : Option D} {r : Slots × Flw} (e : kunp2 x y σ o = some r) (k : ∀ a b, o = some (.tup [a, b]) → (some (put (put σ x (.val a)) y (.val b), .nxt) : Rs) = some r → G) : G := by
  cases o with
  | none => exact nope e
  | some d => cases d with
    | tup l => cases l with
      | nil => exact nope e
      | cons a l => cases l with
        | nil => exact nope e
        | cons b l => cases l with
          | nil => exact k a b rfl e
          | cons => exact nope e
    | _ => exact nope e
theorem tup3_k {G : Prop} {x y z : Nat} {σ : Slots} {o : Option D} {r : Slots × Flw} (e : kunp3 x y z σ o = some r) (k : ∀ a b c, o = some (.tup [a, b, c]) → (some (put (put (put σ x (.val a)) y (.val b)) z (.val c), .nxt) : Rs) = some r → G) : G := by
  cases o with
  | none => exact nope e
  | some d => cases d with
    | tup l => cases l with
      | nil => exact nope e
      | cons a l => cases l with
        | nil => exact nope e
        | cons b l => cases l with
          | nil => exact nope e
          | cons c l => cases l with
            | nil => exact k a b c rfl e
            | cons => exact nope e
    | _ => exact nope e
theorem specR_k {G : Prop} {k : Slots → Rs} {o : Option Slots} {q : Slots × Flw} (e : seqR k (kspec o) = some q) (h : ∀ σ, o = some σ → k σ = some q → G) : G := by
  cases o with
  | none => exact nope e
  | some σ => exact h σ rfl e
theorem spec_k {G : Prop} {o : Option Slots} {r : Slots × Flw} (e : kspec o = some r) (k : ∀ σ, o = some σ → (some (σ, .nxt) : Rs) = some r → G) : G := by
  cases o with
  | none => exact nope e
  | some σ => exact k σ rfl e

section
variable (Φ : Str → List D → Option D)
noncomputable def step (rn : List S → Slots → Rs) (n : Nat) (c : S) (σ : Slots) : Rs := match c with
  | .set x e => kset x σ (evm Φ .strict e σ)
  | .own0 x => some (put σ x (.own []), .nxt)
  | .own1 x e => kown x σ (evm Φ .strict e σ)
  | .unp2 x y e => kunp2 x y σ (evm Φ .strict e σ)
  | .unp3 x y z e => kunp3 x y z σ (evm Φ .strict e σ)
  | .swp x y a b => kswp x y σ (evm Φ .strict a σ) (evm Φ .strict b σ)
  | .aug op x e => kaug op x σ (σ x) (evm Φ .strict e σ)
  | .app x e => kapp x σ (σ x) (evm Φ .strict e σ)
  | .ext x e => kext x σ (σ x) (evm Φ .strict e σ)
  | .bnd x y => kbnd x y σ (σ y)
  | .add x e => kadd σ (σ x) (evm Φ .strict e σ)
  | .ife t a b => kite (rn a) (rn b) σ (evm Φ .test t σ)
  | .whl t b => loopW (evm Φ .test t) (rn b) n σ
  | .forl x it b => kfor (rn b) x σ (evm Φ .strict it σ)
  | .forr x m b => kforr (rn b) x σ (evm Φ .strict m σ)
  | .ret e => kret σ (evm Φ .strict e σ)
  | .brk => some (σ, .brk)
  | .asr t => kasr σ (evm Φ .test t σ)
  | .frz x => some (frzS σ x, .nxt)
  | .spec f => kspec (f σ)
  | .bot => none

noncomputable def run : Nat → List S → Slots → Rs
  | 0 => fun _ _ => none
  | n + 1 => fun cs σ => match cs with
    | [] => some (σ, .nxt)
    | c :: r => seqR (run n r) (step Φ (run n) n c σ)
end

structure Cx where
  Y : Addr → Prop
  R : Shared → Prop
  hR : ∀ (s : Shared) h t, R s → R { s with heap := h, toks := t }
  T : Heap → (Addr → Prop) → Array Value → Prop
  hT : ∀ h X h' X' ps, Mono h X h' X' → T h X ps → T h' X' ps

/-- one more, one less -/
noncomputable def Add1 (K : Addr → Prop) (a : Addr) : Addr → Prop := fun b => K b ∨ b = a
noncomputable def Del1 (K : Addr → Prop) (a : Addr) : Addr → Prop := fun b => K b ∧ b ≠ a

noncomputable def Tgt (env : Env) (n : Str) (t : Addr) : Prop := (env.kindOf n = some .local ∧ t = env.locals) ∨ (env.kindOf n = some .cell ∧ env.cells.lookup n = some t)

structure Apart (env : Env) (cx : Cx) (K : Addr → Prop) (a : Addr) : Prop where
  k : ¬ K a
  y : ¬ cx.Y a
  f : a ≠ env.locals
  c : ∀ n c, env.kindOf n = some .cell → env.cells.lookup n = some c → c ≠ a

structure SInv (mg mb : Str → Option Value) (hG : Heap) (env : Env) (nm : Nat → Str) (N : Nat) (cx : Cx) (K X : Addr → Prop) (α : Nat → Addr) (σ : Slots) (s : Shared) : Prop where
  e : EInv mg mb hG env nm X α σ s
  sub : ∀ a, K a → X a
  ysub : ∀ a, cx.Y a → X a ∧ ¬ K a ∧ ∃ ps, s.heap.get? a = some (tabObj ps) ∧ TriplesOk ps.toList ∧ cx.T s.heap X ps
  rest : cx.R s
  fX : X env.locals
  fK : ¬ K env.locals
  fY : ¬ cx.Y env.locals
  fns : ∃ m, s.heap.Ns env.locals m
  cell : ∀ n, env.kindOf n = some .cell → ∃ c, env.cells.lookup n = some c ∧ X c ∧ ¬ K c ∧ ¬ cx.Y c ∧ c ≠ env.locals ∧ (∃ v, s.heap.IsCell c v) ∧ ∀ n', n' ≠ n → env.kindOf n' = some .cell → env.cells.lookup n' ≠ some c
  own : ∀ x, Mut (σ x) → Apart env cx K (α x) ∧ ∀ y, y ≠ x → Mut (σ y) → α y ≠ α x
  dom : ∀ y, N ≤ y → σ y = .un
  glob : ∀ a, Gl hG a → ¬ X a ∨ K a

noncomputable def Rel (K X : Addr → Prop) (s : Shared) (X' : Addr → Prop) (s' : Shared) : Prop :=
  Mono s.heap X s'.heap X' ∧ (∀ a o, K a → s.heap.get? a = some o → s'.heap.get? a = some o) ∧ s.toks ≤ s'.toks

theorem Rel.refl {K X s} : Rel K X s X s := ⟨fun _ _ e n => ⟨e, n⟩, fun _ _ _ e => e, Nat.le_refl _⟩
theorem Rel.trans {K X s X' s' X'' s''} (a : Rel K X s X' s') (b : Rel K X' s' X'' s'') : Rel K X s X'' s'' :=
  ⟨a.1.trans b.1, fun x o k e => b.2.1 x o k (a.2.1 x o k e), Nat.le_trans a.2.2 b.2.2⟩
theorem Rel.kp {K X s s'} (k : Kp s s') : Rel K X s X s' := ⟨k.grow.mono, fun _ _ _ e => k.grow _ _ e, k.2⟩

theorem Bas.at {mg mb hG} {h h' : Heap} (x : Bas mg mb hG h) (k : ∀ a o, Gl hG a → h.get? a = some o → h'.get? a = some o) : Bas mg mb hG h' := by
  obtain ⟨g, b, ⟨mc, l, e⟩, ov⟩ := x
  exact ⟨g.at' fun o e => k _ o (.inl rfl) e, b.at' fun o e => k _ o (.inr (.inl rfl)) e, ⟨mc, l.at' fun o e => k _ o (.inr (.inr (.inl rfl))) e, e⟩, fun a o n e => k a o (.inr (.inr (.inr ⟨n, o, e⟩))) (ov a o n e)⟩

section
variable {mg mb : Str → Option Value} {hG : Heap} {env : Env} {nm : Nat → Str} {N : Nat} {cx : Cx} {K X : Addr → Prop} {α : Nat → Addr} {σ : Slots} {s : Shared}

theorem SInv.kp {s'} (x : SInv mg mb hG env nm N cx K X α σ s) (k : Kp s s') : SInv mg mb hG env nm N cx K X α σ s' := by
  refine ⟨x.e.kp k, x.sub, fun a ha => ?_, ?_, x.fX, x.fK, x.fY, ?_, fun n hn => ?_, x.own, x.dom, x.glob⟩
  · obtain ⟨a1, a2, ps, e, t, T⟩ := x.ysub a ha
    exact ⟨a1, a2, ps, k.grow _ _ e, t, cx.hT _ _ _ _ _ k.grow.mono T⟩
  · obtain ⟨⟨h, t, rfl, _⟩, _⟩ := k
    exact cx.hR _ _ _ x.rest
  · obtain ⟨m, hm⟩ := x.fns
    exact ⟨m, hm.keeps k.grow⟩
  · obtain ⟨c, h1, h2, h3, h4, h5, ⟨v, h6⟩, h7⟩ := x.cell n hn
    exact ⟨c, h1, h2, h3, h4, h5, ⟨v, h6.keeps k.grow⟩, h7⟩

theorem ns_unique {h : Heap} {a : Addr} {m m' : Str → Option Value} (x : h.Ns a m) (y : h.Ns a m') : m = m' := x.eq_nsMap.trans y.eq_nsMap.symm

/-- the heap is changed at one own address only; what the slots say of it is said anew -/
theorem SInv.at {h' : Heap} {t : Nat} {a : Addr} {α' : Nat → Addr} {σ' : Slots} (x : SInv mg mb hG env nm N cx K X α σ s) (hX : X a) (hK : ¬ K a) (hY : ¬ cx.Y a) (hs : Heap.SameBut a s.heap h') (ht : s.toks ≤ t)
    (hal : ∃ o, h'.get? a = some o) (hf : ∃ m, h'.Ns env.locals m) (hc : ∀ n c, env.kindOf n = some .cell → env.cells.lookup n = some c → ∃ v, h'.IsCell c v)
    (hsl : ∀ y, SlotOk env nm X α' h' y (σ' y)) (hown : ∀ x, Mut (σ' x) → Apart env cx K (α' x) ∧ ∀ y, y ≠ x → Mut (σ' y) → α' y ≠ α' x) (hdom : ∀ y, N ≤ y → σ' y = .un) :
    SInv mg mb hG env nm N cx K X α' σ' { s with heap := h', toks := t } ∧ Rel K X s X { s with heap := h', toks := t } := by
  have up : ∀ b o, b ≠ a → s.heap.get? b = some o → h'.get? b = some o := fun b o hb e => hs.extBut b o hb e
  have nX : ∀ b, ¬ X b → b ≠ a := fun b hb e => hb (e ▸ hX)
  have nK : ∀ b, K b → b ≠ a := fun b hb e => hK (e ▸ hb)
  refine ⟨⟨⟨?_, Nat.le_trans x.e.tok ht, fun b hb => ?_, hsl⟩, x.sub, fun b hb => ?_, cx.hR _ _ _ x.rest, x.fX, x.fK, x.fY, hf, fun n hn => ?_, hown, hdom, x.glob⟩, fun b o e n => ⟨up b o (nX b n) e, n⟩, fun b o k e => up b o (nK b k) e, ht⟩
  · refine x.e.bas.at fun b o hb e => ?_
    rcases x.glob b hb with h | h
    · exact up b o (nX b h) e
    · exact up b o (nK b h) e
  · by_cases hba : b = a
    · subst hba; exact hal
    · obtain ⟨o, e⟩ := x.e.live b hb
      exact ⟨o, up b o hba e⟩
  · obtain ⟨a1, a2, ps, e, t, T⟩ := x.ysub b hb
    exact ⟨a1, a2, ps, up b _ (fun h => hY (h ▸ hb)) e, t, cx.hT _ _ _ _ _ (fun b o e n => ⟨up b o (nX b n) e, n⟩) T⟩
  · obtain ⟨c, h1, h2, h3, h4, h5, _, h7⟩ := x.cell n hn
    exact ⟨c, h1, h2, h3, h4, h5, hc n c hn h1, h7⟩

theorem sameBut_mono {h h' : Heap} {a : Addr} (hX : X a) (hs : Heap.SameBut a h h') : Mono h X h' X := fun b o e n => ⟨hs.extBut b o (fun h => n (h ▸ hX)) e, n⟩

/-- a slot that does not look at the changed address -/
theorem SlotOk.away {h h' : Heap} {a : Addr} {y : Nat} (hX : X a) (hs : Heap.SameBut a h h') {α' : Nat → Addr} {sv : SV} (hl : ∀ v, Look env h (nm y) v → Look env h' (nm y) v) (hm : Mut sv → α y ≠ a ∧ α' y = α y) (hb : ∀ z, sv = .bound z → α' z = α z)
    (k : SlotOk env nm X α h y sv) : SlotOk env nm X α' h' y sv :=
  k.map hl (sameBut_mono hX hs) (fun z => ⟨(hm z).2, id, fun o e => hs.extBut _ o (hm z).1 e⟩) hb
/-- a slot, a guarded object being changed; the guarded object may go out of guard -/
theorem SlotOk.tick {X X' : Addr → Prop} {α : Nat → Addr} {h h' : Heap} {a : Addr} {y : Nat} (hXa : X a) (hs : ∀ b o, b ≠ a → h.get? b = some o → h'.get? b = some o) (hX : ∀ b, X' b → X b) (hX' : ∀ b, X b → b ≠ a → X' b) (hl : ∀ v, Look env h (nm y) v → Look env h' (nm y) v)
    {sv : SV} (hm : Mut sv → α y ≠ a) (k : SlotOk env nm X α h y sv) : SlotOk env nm X' α h' y sv :=
  k.map hl (fun b o e n => ⟨hs b o (fun h => n (h ▸ hXa)) e, fun h => n (hX b h)⟩) (fun z => ⟨rfl, fun x => hX' _ x (hm z), fun o e => hs _ o (hm z) e⟩) fun _ _ => rfl
theorem put_ind {P : SV → Prop} {x y : Nat} {v : SV} (hy : y ≠ x) (h0 : P .un) (h : (∀ z, σ y = .bound z → z ≠ x) → P (σ y)) : P (put σ x v y) := by
  unfold put
  rw [if_neg hy]
  revert h
  generalize σ y = sv
  intro h
  cases sv with
  | bound z =>
    show P (if z = x then SV.un else SV.bound z)
    by_cases hz : z = x
    · rw [if_pos hz]; exact h0
    · rw [if_neg hz]; exact h fun z' e => SV.bound.inj e ▸ hz
  | _ => exact h fun z e => SV.noConfusion e

end
end Mine
end

/-! S15 -/
section
open PySem PySem.W PyProof.Rows
set_option maxRecDepth 4000

namespace Mine
section
variable {mg mb : Str → Option Value} {hG : Heap} {env : Env} {nm : Nat → Str} {N : Nat} {cx : Cx} {K X : Addr → Prop} {α : Nat → Addr} {σ : Slots} {s : Shared}

theorem put_self {x v} : put σ x v x = v := by unfold put; rw [if_pos rfl]
theorem put_mut {x y v} (h : y ≠ x) : Mut (put σ x v y) ↔ Mut (σ y) := by
  unfold put
  rw [if_neg h]
  cases σ y with
  | bound z =>
    show Mut (if z = x then SV.un else SV.bound z) ↔ False
    by_cases hz : z = x
    · rw [if_pos hz]; exact Iff.rfl
    · rw [if_neg hz]; exact Iff.rfl
  | _ => exact Iff.rfl

theorem look_cases {h h' : Heap} {n n' : Str} {v v' : Value} {t : Addr} (hne : n' ≠ n) (hsb : Heap.SameBut t h h') (ht : Tgt env n t)
    (hm : env.kindOf n = some .local → ∀ m, h.Ns env.locals m → h'.Ns env.locals (fun x => if x = n then some v else m x))
    (hc : ∀ c, env.kindOf n = some .cell → env.kindOf n' = some .cell → env.cells.lookup n' = some c → c ≠ t) (hcl : ∀ c, env.kindOf n = some .local → env.kindOf n' = some .cell → env.cells.lookup n' = some c → c ≠ env.locals)
    (hfl : env.kindOf n = some .cell → env.locals ≠ t) (l : Look env h n' v') : Look env h' n' v' := by
  rcases l with ⟨k, m, hn, e⟩ | ⟨k, c, hl, hv⟩
  · rcases ht with ⟨hk, rfl⟩ | ⟨hk, ht⟩
    · exact .inl ⟨k, _, hm hk m hn, by simp [hne, e]⟩
    · exact .inl ⟨k, m, hn.sameBut hsb (hfl hk), e⟩
  · rcases ht with ⟨hk, rfl⟩ | ⟨hk, ht⟩
    · obtain ⟨o, ho, hd⟩ := hv
      exact .inr ⟨k, c, hl, o, hsb.extBut _ o (hcl c hk k hl) ho, hd⟩
    · obtain ⟨o, ho, hd⟩ := hv
      exact .inr ⟨k, c, hl, o, hsb.extBut _ o (hc c hk k hl) ho, hd⟩

variable {M : Model} {A : Around} {E : Value → Shared → Prop}

theorem store_gen {x : Nat} {n : Str} {v : Value} {sv : SV} {α' : Nat → Addr} (hx : nm x = n) (hxN : x < N) (hinj : ∀ y, y < N → nm y = n → y = x) (hE : EnvOk env) (I : SInv mg mb hG env nm N cx K X α σ s)
    (hk : env.kindOf n = some .local ∨ env.kindOf n = some .cell) (hα : ∀ y, y ≠ x → α' y = α y)
    (hsv : ∀ t h', Tgt env n t → X t → Heap.SameBut t s.heap h' → Look env h' n v → SlotOk env nm X α' h' x sv)
    (hown : Mut sv → Apart env cx K (α' x) ∧ ∀ y, y ≠ x → Mut (σ y) → α y ≠ α' x)
    {Q : Unit → Shared → Prop} (hQ : ∀ s', SInv mg mb hG env nm N cx K X α' (put σ x sv) s' → Rel K X s X s' → Q () s') : wpAny M A (storeName env n v) Q E s := by
  have slots : ∀ t h', Tgt env n t → X t → Heap.SameBut t s.heap h' → Look env h' n v → (∀ y, Mut (σ y) → α y ≠ t) → (∀ n' v', n' ≠ n → Look env s.heap n' v' → Look env h' n' v') → ∀ y, SlotOk env nm X α' h' y (put σ x sv y) := by
    intro t h' ht hXt hs hl hown' hlk y
    by_cases hy : y = x
    · rw [hy, put_self]
      exact hsv t h' ht hXt hs hl
    · refine put_ind (P := SlotOk env nm X α' h' y) hy trivial fun hz => ?_
      by_cases hyN : y < N
      · exact SlotOk.away hXt hs (fun v' l => hlk _ v' (fun h => hy (hinj y hyN h)) l) (fun hm => ⟨hown' y hm, hα y hy⟩) (fun z e => hα z (hz z e)) (I.e.slots y)
      · rw [I.dom y (Nat.le_of_not_lt hyN)]
        exact trivial
  have ownd : ∀ x', Mut (put σ x sv x') → Apart env cx K (α' x') ∧ ∀ y, y ≠ x' → Mut (put σ x sv y) → α' y ≠ α' x' := by
    intro x' hm
    by_cases hx' : x' = x
    · subst hx'
      rw [put_self] at hm
      obtain ⟨a1, a2⟩ := hown hm
      refine ⟨a1, fun y hy hmy => ?_⟩
      rw [put_mut hy] at hmy
      rw [hα y hy]
      exact a2 y hy hmy
    · rw [put_mut hx'] at hm
      obtain ⟨a1, a2⟩ := I.own x' hm
      rw [hα x' hx']
      refine ⟨a1, fun y hy hmy => ?_⟩
      by_cases hyx : y = x
      · subst hyx
        rw [put_self] at hmy
        exact ((hown hmy).2 x' hx' hm).symm
      · rw [put_mut hyx] at hmy
        rw [hα y hyx]
        exact a2 y hy hmy
  have domd : ∀ y, N ≤ y → put σ x sv y = .un := by
    intro y hy
    unfold put
    rw [if_neg (fun h : y = x => Nat.not_lt.mpr hy (h ▸ hxN)), I.dom y hy]
  have cells' : ∀ {t h'}, Heap.SameBut t s.heap h' → (∀ n' c, env.kindOf n' = some .cell → env.cells.lookup n' = some c → c ≠ t ∨ ∃ v, h'.IsCell c v) → ∀ n' c, env.kindOf n' = some .cell → env.cells.lookup n' = some c → ∃ v, h'.IsCell c v := by
    intro t h' hs h n' c hk hc
    rcases h n' c hk hc with h | h
    · obtain ⟨c', h1, _, _, _, _, ⟨u, o, ho, hd⟩, _⟩ := I.cell n' hk
      rw [hc] at h1
      cases h1
      exact ⟨u, o, hs.extBut _ o h ho, hd⟩
    · exact h
  rcases hk with hk | hk
  · obtain ⟨m, hm⟩ := I.fns
    refine wpAny_storeName_local hk hm (fun h' hn' hs' => ?_) (by simp [hE.1])
    have tg : Tgt env n env.locals := .inl ⟨hk, rfl⟩
    have lk : ∀ n' v', n' ≠ n → Look env s.heap n' v' → Look env h' n' v' := fun n' v' hne l => by
      refine look_cases (v := v) hne hs' tg (fun _ m' hm' => ?_) (fun c hk' => by rw [hk] at hk'; cases hk') (fun c _ hk' hc => ?_) (fun hk' => by rw [hk] at hk'; cases hk') l
      · rw [ns_unique hm' hm]; exact hn'
      · obtain ⟨c', h1, _, _, _, h5, _⟩ := I.cell n' hk'
        rw [hc] at h1; cases h1; exact h5
    have z := I.at (α' := α') (σ' := put σ x sv) (h' := h') (t := s.toks + 1) (a := env.locals) I.fX I.fK I.fY hs' (Nat.le_succ _) (let ⟨o, _, _, ho, _⟩ := hn'; ⟨o, ho⟩) ⟨_, hn'⟩ (cells' hs' fun n' c hk' hc => .inl (by
        obtain ⟨c', h1, _, _, _, h5, _⟩ := I.cell n' hk'
        rw [hc] at h1; cases h1; exact h5))
      (slots _ h' tg I.fX hs' (.inl ⟨hk, _, hn', by simp⟩) (fun y hm => (I.own y hm).1.f) lk) ownd domd
    exact hQ _ z.1 z.2
  · obtain ⟨c, h1, h2, h3, h4, h5, ⟨u, h6⟩, h7⟩ := I.cell n hk
    refine wpAny_storeName_cell hE.1 hk h1 h6 fun h' hn' hs' => ?_
    have tg : Tgt env n c := .inr ⟨hk, h1⟩
    have lk : ∀ n' v', n' ≠ n → Look env s.heap n' v' → Look env h' n' v' := fun n' v' hne l => by
      refine look_cases (v := v) hne hs' tg (fun hk' => by rw [hk] at hk'; cases hk') (fun c' _ hk' hc e => ?_) (fun c hk' => by rw [hk] at hk'; cases hk') (fun _ => h5.symm) l
      subst e
      exact h7 n' hne hk' hc
    have z := I.at (α' := α') (σ' := put σ x sv) (h' := h') (t := s.toks) (a := c) h2 h3 h4 hs' (Nat.le_refl _) (let ⟨o, ho, _⟩ := hn'; ⟨o, ho⟩) (let ⟨m, hm⟩ := I.fns; ⟨m, hm.sameBut hs' h5.symm⟩) (cells' hs' fun n' c' hk' hc => by
        by_cases e : c' = c
        · subst e; exact .inr ⟨_, hn'⟩
        · exact .inl e)
      (slots _ h' tg h2 hs' (.inr ⟨hk, c, h1, hn'⟩) (fun y hm => fun e => (I.own y hm).1.c n c hk h1 e.symm) lk) ownd domd
    exact hQ _ z.1 z.2

theorem store_val {x : Nat} {n : Str} {v : Value} {d : D} (hx : nm x = n) (hxN : x < N) (hinj : ∀ y, y < N → nm y = n → y = x) (hE : EnvOk env) (I : SInv mg mb hG env nm N cx K X α σ s)
    (hk : env.kindOf n = some .local ∨ env.kindOf n = some .cell) (p : Den s.heap X d v)
    {Q : Unit → Shared → Prop} (hQ : ∀ s', SInv mg mb hG env nm N cx K X α (put σ x (.val d)) s' → Rel K X s X s' → Q () s') : wpAny M A (storeName env n v) Q E s :=
  store_gen (sv := .val d) hx hxN hinj hE I hk (fun _ _ => rfl) (fun t h' ht hX hs l => ⟨v, hx ▸ l, p.mono (sameBut_mono hX hs)⟩) (fun h => h.elim) hQ

theorem mut_alive {X α h y} {sv : SV} (hm : Mut sv) (k : SlotOk env nm X α h y sv) : ∃ o, h.get? (α y) = some o := by
  cases sv with
  | own l => exact let ⟨_, _, _, ⟨_, e⟩, _⟩ := k; ⟨_, e⟩
  | iter l => exact let ⟨_, _, _, _, _, _, ⟨ob, e, _⟩, _⟩ := k; ⟨ob, e⟩
  | _ => exact hm.elim

/-- a new object comes under the frame's hand -/
theorem SInv.grab {a : Addr} {o : Obj} (I : SInv mg mb hG env nm N cx K X α σ s) (ho : (a = s.heap.objs.size)) (hfr : o.isFreed = false) :
    SInv mg mb hG env nm N cx K (Add1 X a) α σ { s with heap := s.heap.push o } ∧ Rel K X s (Add1 X a) { s with heap := s.heap.push o } ∧ Apart env cx K a ∧ ∀ y, Mut (σ y) → α y ≠ a := by
  subst ho
  have nn : ∀ b, (∃ o, s.heap.get? b = some o) → b ≠ s.heap.objs.size := fun b ⟨_, e⟩ => ne_of_get (get_new _) e
  have g : Grow s.heap (s.heap.push o) := grow_push _ _
  have J := I.kp (kp_push s o)
  have mono : Mono s.heap X (s.heap.push o) (Add1 X s.heap.objs.size) := fun b ob e n => ⟨g _ _ e, fun h => h.elim n (nn b ⟨_, e⟩)⟩
  have aX : ∀ {b}, X b → b ≠ s.heap.objs.size := fun {b} hb => nn b (I.e.live b hb)
  refine ⟨⟨⟨J.e.bas, I.e.tok, fun b hb => hb.elim (J.e.live b) fun h => ⟨o, h ▸ Heap.get?_push_size _ hfr⟩, fun y => (I.e.slots y).map (fun _ l => l.grow g) mono (fun _ => ⟨rfl, .inl, fun _ e => g _ _ e⟩) fun _ _ => rfl⟩, fun b hb => .inl (I.sub b hb), fun b hb => ?_, J.rest, .inl I.fX, I.fK, I.fY, J.fns, fun n hn => ?_, I.own, I.dom, fun b hb => (I.glob b hb).imp (fun h h' => h'.elim h fun e => nn b (I.e.bas.gl hb) e) id⟩,
    ⟨mono, fun _ _ _ e => g _ _ e, Nat.le_refl _⟩, ⟨fun hk => aX (I.sub _ hk) rfl, fun hy => aX (I.ysub _ hy).1 rfl, fun hf => aX I.fX hf.symm, fun n c hk hc e => ?_⟩, fun y hm => nn _ (mut_alive hm (I.e.slots y))⟩
  · obtain ⟨a1, a2, ps, e, t, T⟩ := I.ysub b hb
    exact ⟨.inl a1, a2, ps, g _ _ e, t, cx.hT _ _ _ _ _ mono T⟩
  · obtain ⟨c, h1, h2, h3⟩ := J.cell n hn
    exact ⟨c, h1, .inl h2, h3⟩
  · obtain ⟨c', h1, h2, _⟩ := I.cell n hk
    exact aX h2 ((Option.some.inj (hc.symm.trans h1)).symm.trans e)

end
end Mine
end

/-! S16 -/
section
open PySem PySem.W PyProof.Rows
set_option maxRecDepth 4000

namespace Mine

noncomputable def FlowOk (s : Shared) (X : Addr → Prop) : Flw → Flow → Prop
  | .nxt, f => f = .next
  | .brk, f => f = .brk
  | .ret d, f => ∃ v, f = .ret v ∧ Den s.heap X d v

section
variable (prog : Program) (w : World) (mg mb : Str → Option Value) (hG : Heap) (A : Around) (Φ : Str → List D → Option D) (nm : Nat → Str) (N : Nat) (cx : Cx) (env : Env)

inductive Post (K X : Addr → Prop) (s : Shared) (σ' : Slots) (fl : Flw) (f : Flow) (s' : Shared) : Prop
  | mk (X' : Addr → Prop) (α' : Nat → Addr) (I : SInv mg mb hG env nm N cx K X' α' σ' s') (r : Rel K X s X' s') (h : FlowOk s' X' fl f)

/-- a statement is told by a step -/
noncomputable def SO (st : Stmt) (c : S) : Prop := ∀ n K X α σ s σ' fl, SInv mg mb hG env nm N cx K X α σ s → step Φ (run Φ n) n c σ = some (σ', fl) →
  wpAny (model prog w) A (exec st env) (Post mg mb hG nm N cx env K X s σ' fl) (fun _ _ => False) s

noncomputable def SS (l : List Stmt) (cs : List S) : Prop := ∀ n K X α σ s σ' fl, SInv mg mb hG env nm N cx K X α σ s → run Φ n cs σ = some (σ', fl) →
  wpAny (model prog w) A (execs l env) (Post mg mb hG nm N cx env K X s σ' fl) (fun _ _ => False) s

/-- a statement that only sets slots -/
structure Ok : Prop where
  hE : EnvOk env
  hc : CellsOk env
  hh : A.handled = none
  inj : ∀ x y, x < N → y < N → nm x = nm y → x = y
end

section
variable {prog : Program} {w : World} {mg mb : Str → Option Value} {hG : Heap} {A : Around} {Φ : Str → List D → Option D} {nm : Nat → Str} {N : Nat} {cx : Cx} {env : Env}

theorem Post.trans {K X s X₁ s₁ σ' fl f s'} (r : Rel K X s X₁ s₁) (p : Post mg mb hG nm N cx env K X₁ s₁ σ' fl f s') : Post mg mb hG nm N cx env K X s σ' fl f s' := by
  obtain ⟨X', α', i, r', h⟩ := p
  exact ⟨X', α', i, r.trans r', h⟩

theorem ss_nil : SS prog w mg mb hG A Φ nm N cx env [] [] := by
  intro n K X α σ s σ' fl I h
  cases n with
  | zero => exact nope h
  | succ n => exact pr h (wpAny_execs_nil ⟨X, α, I, Rel.refl, rfl⟩)

/-- what a block before it leaves -/
theorem flow_fin {K X s X₁ α₁ σ₁ s₁ f₁ f σ' fl} {k : Slots → Rs} {E : Value → Shared → Prop} {l : List Stmt} (I₁ : SInv mg mb hG env nm N cx K X₁ α₁ σ₁ s₁) (r₁ : Rel K X s X₁ s₁) (hf : FlowOk s₁ X₁ f₁ f) (h : seqR k (some (σ₁, f₁)) = some (σ', fl))
    (nx : k σ₁ = some (σ', fl) → wpAny (model prog w) A (execs l env) (Post mg mb hG nm N cx env K X s σ' fl) E s₁) :
    match f with | .next => wpAny (model prog w) A (execs l env) (Post mg mb hG nm N cx env K X s σ' fl) E s₁ | f => Post mg mb hG nm N cx env K X s σ' fl f s₁ := by
  cases f₁ with
  | nxt => subst hf; exact nx h
  | brk => subst hf; exact pr h ⟨X₁, α₁, I₁, r₁, rfl⟩
  | ret d => obtain ⟨v, rfl, p⟩ := hf; exact pr h ⟨X₁, α₁, I₁, r₁, v, rfl, p⟩

theorem ss_cons {st : Stmt} {c : S} {l : List Stmt} {cs : List S} (h1 : SO prog w mg mb hG A Φ nm N cx env st c) (h2 : SS prog w mg mb hG A Φ nm N cx env l cs) : SS prog w mg mb hG A Φ nm N cx env (st :: l) (c :: cs) := by
  intro n K X α σ s σ' fl I h
  cases n with
  | zero => exact nope h
  | succ n =>
    obtain ⟨⟨σ₁, f₁⟩, hs⟩ := seqR_hd (k := run Φ n cs) (r := step Φ (run Φ n) n c σ) h
    replace h := (congrArg (seqR (run Φ n cs)) hs).symm.trans h
    refine wpAny_execs_cons (wpM (h1 n K X α σ s σ₁ f₁ I hs) fun f s₁ p => ?_)
    obtain ⟨X₁, α₁, I₁, r₁, hf⟩ := p
    have := flow_fin I₁ r₁ hf h fun h => wpM (h2 n K X₁ α₁ σ₁ s₁ σ' fl I₁ h) fun f s' p => p.trans r₁
    cases f <;> exact this

/-- an own list is given out of the hand -/
theorem SInv.frz {K X α σ s} (x : Nat) (I : SInv mg mb hG env nm N cx K X α σ s) : ∃ X', SInv mg mb hG env nm N cx K X' α (frzS σ x) s ∧ Rel K X s X' s := by
  have ho := I.e.slots x
  have hown := I.own x
  have hdom := I.dom x
  unfold frzS
  revert ho hown hdom
  generalize σ x = sv
  intro ho hown hdom
  cases sv with
  | own l =>
    obtain ⟨hx1, hx2, vs, hx3, hx4⟩ := ho
    obtain ⟨ap, ow⟩ := hown trivial
    have mono : Mono s.heap X s.heap (Del1 X (α x)) := fun b o e n => ⟨e, fun h => n h.1⟩
    refine ⟨Del1 X (α x), ⟨⟨I.e.bas, I.e.tok, fun b hb => I.e.live b hb.1, fun y => ?_⟩, fun b hb => ⟨I.sub b hb, fun h => ap.k (h ▸ hb)⟩, fun b hb => ?_, I.rest, ⟨I.fX, fun h => ap.f h.symm⟩, I.fK, I.fY, I.fns, fun n hn => ?_, fun y hm => ?_, fun y hy => ?_, fun b hb => (I.glob b hb).imp (fun h h' => h h'.1) id⟩, mono, fun _ _ _ e => e, Nat.le_refl _⟩
    · by_cases hy : y = x
      · rw [hy]
        show SlotOk _ _ _ _ _ _ (put σ x _ x)
        rw [put_self]
        exact ⟨.ref (α x), hx2, α x, vs, rfl, fun h => h.2 rfl, hx3, hx4.mono mono⟩
      · exact put_ind (P := SlotOk env nm (Del1 X (α x)) α s.heap y) hy trivial fun _ => (I.e.slots y).map (fun _ l => l) mono (fun hm => ⟨rfl, fun h => ⟨h, ow y hy hm⟩, fun _ e => e⟩) fun _ _ => rfl
    · obtain ⟨a1, a2, ps, e, t, T⟩ := I.ysub b hb
      exact ⟨⟨a1, fun h => ap.y (h ▸ hb)⟩, a2, ps, e, t, cx.hT _ _ _ _ _ mono T⟩
    · obtain ⟨c, h1, h2, h3⟩ := I.cell n hn
      exact ⟨c, h1, ⟨h2, ap.c n c hn h1⟩, h3⟩
    · have hyx : ∀ {y}, Mut (put σ x (.val (.list l)) y) → Mut (σ y) := fun {y} hm => by
        by_cases hy : y = x
        · rw [hy, put_self] at hm; exact hm.elim
        · exact (put_mut hy).mp hm
      obtain ⟨a1, a2⟩ := I.own y (hyx hm)
      exact ⟨a1, fun z hz hmz => a2 z hz (hyx hmz)⟩
    · refine (if_neg (fun h => ?_)).trans (by rw [I.dom y hy])
      exact SV.noConfusion (hdom (h ▸ hy))
  | _ => exact ⟨X, I, Rel.refl⟩

theorem ss_frz {x : Nat} {l : List Stmt} {cs : List S} (h2 : SS prog w mg mb hG A Φ nm N cx env l cs) : SS prog w mg mb hG A Φ nm N cx env l (.frz x :: cs) := by
  intro n K X α σ s σ' fl I h
  cases n with
  | zero => exact nope h
  | succ n =>
    obtain ⟨X', I', r⟩ := I.frz x
    exact wpM (h2 n K X' α _ s σ' fl I' h) fun f s' p => p.trans r

variable {e : Expr} {ce : E} {p pos : Pos} {x : Nat} {n : Str}

theorem so_set (O : Ok A nm N env) (he : Snd prog w mg mb hG A Φ nm env e ce) (hx : nm x = n) (hxN : x < N) (hk : env.kindOf n = some .local ∨ env.kindOf n = some .cell) (hsw : swapsWith e (some (.Name n p)) pos.line env = pure false) :
    SO prog w mg mb hG A Φ nm N cx env (.Assign [.Name n p] e pos) (.set x ce) :=
  fun _ _ X α _ _ _ _ I h => kD_k h fun d h1 h => pr h (wpAny_Assign_Name (ev1 he I.e h1 fun v s1 k1 _ p1 => store_val hx hxN (fun y hy h => O.inj y x hy hxN (h.trans hx.symm)) O.hE (I.kp k1) hk p1 fun s' I' r' => ⟨X, α, I', (Rel.kp k1).trans r', rfl⟩) hsw)

theorem store_own {K X α σ s} {a : Addr} {vs : Array Value} {l : List D} {M : Model} {E' : Value → Shared → Prop} (O : Ok A nm N env) (hx : nm x = n) (hxN : x < N) (hk : env.kindOf n = some .local ∨ env.kindOf n = some .cell)
    (I : SInv mg mb hG env nm N cx K X α σ s) (ha : X a) (hap : Apart env cx K a) (hne : ∀ y, Mut (σ y) → α y ≠ a) (hl : s.heap.PlainList a vs) (q : DenL s.heap X l vs.toList)
    {Q : Unit → Shared → Prop} (hQ : ∀ s', SInv mg mb hG env nm N cx K X (fun y => if y = x then a else α y) (put σ x (.own l)) s' → Rel K X s X s' → Q () s') : wpAny M A (storeName env n (.ref a)) Q E' s := by
  refine store_gen (sv := .own l) (α' := fun y => if y = x then a else α y) hx hxN (fun y hy h => O.inj y x hy hxN (h.trans hx.symm)) O.hE I hk (fun y hy => if_neg hy) (fun t h' ht hXt hs lk => ?_) (fun _ => ?_) hQ
  · have e : (if x = x then a else α x) = a := if_pos rfl
    unfold SlotOk
    simp only [e]
    refine ⟨ha, by rw [hx]; exact lk, vs, hl.extBut hs.extBut ?_, q.mono (sameBut_mono hXt hs)⟩
    rcases ht with ⟨_, rfl⟩ | ⟨hk', ht⟩
    · exact hap.f
    · exact (hap.c n t hk' ht).symm
  · show Apart env cx K (if x = x then a else α x) ∧ _
    rw [if_pos rfl]
    exact ⟨hap, fun y _ hm => hne y hm⟩

theorem so_own0 {q : Pos} (O : Ok A nm N env) (hx : nm x = n) (hxN : x < N) (hk : env.kindOf n = some .local ∨ env.kindOf n = some .cell) : SO prog w mg mb hG A Φ nm N cx env (.Assign [.Name n p] (.List [] q) pos) (.own0 x) := by
  intro n' K X α σ s σ' fl I h
  obtain ⟨I1, r1, ap, hne⟩ := I.grab (o := { cls := .type "list", data := .seq ([] : List Value).toArray }) rfl rfl
  exact pr h (wpAny_Assign_Name (wpAny_List (wpAny_items_nil ⟨small_size (Nat.zero_le _), store_own O hx hxN hk I1 (.inr rfl) ap hne ⟨_, Heap.get?_push_size _ rfl⟩ .nil fun s' I' r' => ⟨_, _, I', r1.trans r', rfl⟩⟩)) rfl)

theorem so_own1 {q : Pos} (O : Ok A nm N env) (pe : plainE e = true) (he : Snd prog w mg mb hG A Φ nm env e ce) (hx : nm x = n) (hxN : x < N) (hk : env.kindOf n = some .local ∨ env.kindOf n = some .cell) :
    SO prog w mg mb hG A Φ nm N cx env (.Assign [.Name n p] (.List [e] q) pos) (.own1 x ce) := by
  intro n' K X α σ s σ' fl I h
  refine kD_k h fun d h1 h => pr h (wpAny_Assign_Name (wpAny_List (items1 pe he I.e h1 fun v s1 k1 _ p1 => ⟨small_size (Nat.le_of_ble_eq_true rfl), ?_⟩)) rfl)
  obtain ⟨I1, r1, ap, hne⟩ := (I.kp k1).grab (o := { cls := .type "list", data := .seq ([v] : List Value).toArray }) rfl rfl
  exact store_own O hx hxN hk I1 (.inr rfl) ap hne ⟨_, Heap.get?_push_size _ rfl⟩ (l := [d]) (.cons (p1.mono r1.1) .nil) fun s' I' r' => ⟨_, _, I', (Rel.kp k1).trans (r1.trans r'), rfl⟩

end
end Mine
end

/-! S17 -/
section
open PySem PySem.W PyProof.Rows
set_option maxRecDepth 4000

namespace Mine
section
variable {prog : Program} {w : World} {mg mb : Str → Option Value} {hG : Heap} {A : Around} {Φ : Str → List D → Option D} {nm : Nat → Str} {N : Nat} {cx : Cx} {env : Env}
variable {e : Expr} {ce : E} {p pos : Pos} {x : Nat} {n : Str}

theorem so_ret (he : Snd prog w mg mb hG A Φ nm env e ce) : SO prog w mg mb hG A Φ nm N cx env (.Return (some e) pos) (.ret ce) :=
  fun _ _ X α _ _ _ _ I h => kD_k h fun d h1 h => pr h (wpAny_Return_some (ev1 he I.e h1 fun v s1 k1 _ p1 => ⟨X, α, I.kp k1, Rel.kp k1, v, rfl, p1⟩))

theorem so_brk : SO prog w mg mb hG A Φ nm N cx env (.Break pos) .brk :=
  fun _ _ X α _ _ _ _ I h => pr h (wpAny_Break ⟨X, α, I, Rel.refl, rfl⟩)

theorem so_asr {msg : Option Expr} (he : Snd prog w mg mb hG A Φ nm env e ce) : SO prog w mg mb hG A Φ nm N cx env (.Assert e msg pos) (.asr ce) := by
  intro _ _ X α _ _ _ _ I h
  refine kB_k h fun b h1 h => ?_
  cases b with
  | true => exact pr h (wpAny_Assert_holds (tst I.e he h1 fun s1 k1 => ⟨rfl, X, α, I.kp k1, Rel.kp k1, rfl⟩))
  | false => exact nope h

theorem so_ife {a b : List Stmt} {ca cb : List S} (he : Snd prog w mg mb hG A Φ nm env e ce) (ha : SS prog w mg mb hG A Φ nm N cx env a ca) (hb : SS prog w mg mb hG A Φ nm N cx env b cb) :
    SO prog w mg mb hG A Φ nm N cx env (.If e a b pos) (.ife ce ca cb) := by
  intro n' K X α σ s σ' fl I h
  refine kB_k h fun b h1 h => wpAny_If (tst I.e he h1 fun s1 k1 => ?_)
  cases b with
  | true => exact wpM (ha n' K X α σ s1 σ' fl (I.kp k1) h) fun f s' p => p.trans (Rel.kp k1)
  | false => exact wpM (hb n' K X α σ s1 σ' fl (I.kp k1) h) fun f s' p => p.trans (Rel.kp k1)

/-- between the turns of a while -/
inductive WInv (mg mb : Str → Option Value) (hG : Heap) (nm : Nat → Str) (N : Nat) (cx : Cx) (env : Env) (K X : Addr → Prop) (s : Shared) (t : Slots → Option D) (f : Slots → Rs) (σ' : Slots) (fl : Flw) (m : Nat) (s₁ : Shared) : Prop
  | mk (X₁ : Addr → Prop) (α₁ : Nat → Addr) (σ₁ : Slots) (I : SInv mg mb hG env nm N cx K X₁ α₁ σ₁ s₁) (r : Rel K X s X₁ s₁) (h : loopW t f m σ₁ = some (σ', fl))

theorem so_whl {b : List Stmt} {cb : List S} (he : Snd prog w mg mb hG A Φ nm env e ce) (hb : SS prog w mg mb hG A Φ nm N cx env b cb) :
    SO prog w mg mb hG A Φ nm N cx env (.While e b [] pos) (.whl ce cb) := by
  intro n' K X α σ s σ' fl I h
  refine wpAny_While (codeAny_whileLoop (WInv mg mb hG nm N cx env K X s (evm Φ .test ce) (run Φ n' cb) σ' fl) ?_ n' ⟨X, α, σ, I, Rel.refl, h⟩)
  rintro m s₁ ⟨X₁, α₁, σ₁, I₁, r₁, h₁⟩
  refine wpAny_noRaise ?_
  cases m with
  | zero => exact nope h₁
  | succ m =>
    refine kB_k h₁ fun t ht h₁ => tst I₁.e he ht fun s₂ k₂ => ?_
    have I₂ := I₁.kp k₂
    cases t with
    | false => exact pr h₁ (wpAny_execs_nil ⟨X₁, α₁, I₂, r₁.trans (Rel.kp k₂), rfl⟩)
    | true =>
      obtain ⟨⟨σ₂, f₂⟩, hr⟩ := seqL_hd (k := loopW (evm Φ .test ce) (run Φ n' cb) m) (r := run Φ n' cb σ₁) h₁
      replace h₁ := (congrArg (seqL (loopW (evm Φ .test ce) (run Φ n' cb) m)) hr).symm.trans h₁
      refine wpAny_noRaise (wpM (hb n' K X₁ α₁ σ₁ s₂ σ₂ f₂ I₂ hr) fun f s₃ p => ?_)
      obtain ⟨X₃, α₃, I₃, r₃, hf⟩ := p
      have r₃' := r₁.trans ((Rel.kp k₂).trans r₃)
      cases f₂ with
      | nxt => subst hf; exact ⟨m, Nat.lt_succ_self _, X₃, α₃, σ₂, I₃, r₃', h₁⟩
      | brk => subst hf; exact pr h₁ ⟨X₃, α₃, I₃, r₃', rfl⟩
      | ret d => obtain ⟨v, rfl, p⟩ := hf; exact pr h₁ ⟨X₃, α₃, I₃, r₃', v, rfl, p⟩

theorem load_look {v : Value} {s : Shared} {Q : Value → Shared → Prop} {E : Value → Shared → Prop} (hE : EnvOk env) (l : Look env s.heap n v) (h : Q v s) : wpAny (model prog w) A (loadName env n) Q E s := by
  rcases l with ⟨k, m, hn, e⟩ | ⟨k, c, hc, hv⟩
  · exact wpAny_loadName_local hE.1 k hn e h
  · exact wpAny_loadName_cell hE.1 k hc hv h

theorem so_aug {op : Operator} (O : Ok A nm N env) (he : Snd prog w mg mb hG A Φ nm env e ce) (hx : nm x = n) (hxN : x < N) (hk : env.kindOf n = some .local ∨ env.kindOf n = some .cell) :
    SO prog w mg mb hG A Φ nm N cx env (.AugAssign (.Name n p) op e pos) (.aug op x ce) := by
  intro n' K X α σ s σ' fl I h
  refine kaug_k h fun a b d hσ h1 h2 h => pr h ?_
  have old := I.e.slots x
  rw [hσ] at old
  obtain ⟨u, l, pu⟩ := old
  exact wpAny_AugAssign_Name (load_look O.hE (hx ▸ l) (ev1 he I.e h1 fun v s1 k1 I1 p1 => inp_sound (pu.mono k1.grow.mono) p1 h2 _ _ fun r s2 k2 p2 =>
    store_val hx hxN (fun y hy h => O.inj y x hy hxN (h.trans hx.symm)) O.hE (I.kp (k1.trans k2)) hk p2 fun s' I' r' => ⟨X, α, I', (Rel.kp (k1.trans k2)).trans r', rfl⟩))

theorem den_three {h : Heap} {X : Addr → Prop} {a b c : D} {v : Value} (x : Den h X (.tup [a, b, c]) v) : ∃ t v1 v2 v3, v = .ref t ∧ ¬ X t ∧ h.IsTuple t #[v1, v2, v3] ∧ Den h X a v1 ∧ Den h X b v2 ∧ Den h X c v3 := by
  obtain ⟨t, vs, rfl, hXt, htup, hq⟩ := den_tup_inv x
  obtain ⟨v1, r1, e1, d1, q1⟩ := hq.cons_inv
  obtain ⟨v2, r2, rfl, d2, q2⟩ := q1.cons_inv
  obtain ⟨v3, r3, rfl, d3, q3⟩ := q2.cons_inv
  rw [q3.nil_inv] at e1
  exact ⟨t, v1, v2, v3, rfl, hXt, (Array.toList_inj.mp e1 : vs = #[v1, v2, v3]) ▸ htup, d1, d2, d3⟩

section
variable {n1 n2 n3 : Str} {p1 p2 p3 : Pos} {k k2 : Nat} {tp tp2 : Pos} {x y z : Nat} {K X : Addr → Prop} {α : Nat → Addr} {σ : Slots} {s : Shared} {v : Value} {a b c : D} (O : Ok A nm N env) (hx : nm x = n1) (hy : nm y = n2) (hz : nm z = n3) (hxN : x < N) (hyN : y < N) (hzN : z < N)
    (hk1 : env.kindOf n1 = some .local ∨ env.kindOf n1 = some .cell) (hk2 : env.kindOf n2 = some .local ∨ env.kindOf n2 = some .cell) (hk3 : env.kindOf n3 = some .local ∨ env.kindOf n3 = some .cell)
include O hx hxN hk1 in
/-- a name in a row of targets -/
theorem bind1 (I : SInv mg mb hG env nm N cx K X α σ s) {d : D} (p : Den s.heap X d v) {ts : List (Value → Sem Unit)} {xs : List Value} {Q : Unit → Shared → Prop} {E : Value → Shared → Prop}
    (hQ : ∀ s', SInv mg mb hG env nm N cx K X α (put σ x (.val d)) s' → Rel K X s X s' → wpAny (model prog w) A (assignInOrder ts xs) Q E s') : wpAny (model prog w) A (assignInOrder (assign (.Name n1 p1) env :: ts) (v :: xs)) Q E s :=
  wpAny_assignInOrder_more (wpAny_assign_Name (store_val hx hxN (fun z hz h => O.inj z x hz hxN (h.trans hx.symm)) O.hE I hk1 p hQ))
include O hx hy hxN hyN hk1 hk2 in
/-- unpacking a tuple -/
theorem unpack2 (I : SInv mg mb hG env nm N cx K X α σ s) (pv : Den s.heap X (.tup [a, b]) v) {Q : Unit → Shared → Prop} {E : Value → Shared → Prop}
    (hQ : ∀ s', SInv mg mb hG env nm N cx K X α (put (put σ x (.val a)) y (.val b)) s' → Rel K X s X s' → Q () s') : wpAny (model prog w) A (assign (.Tuple [.Name n1 p1, .Name n2 p2] k tp) env v) Q E s := by
  obtain ⟨t, v1, v2, rfl, hXt, htup, d1, d2⟩ := den_pair pv
  refine wpAny_assign_Tuple O.hh htup rfl rfl fun h₁ hx₁ => ?_
  have g₁ : Grow s.heap h₁ := fun b o e => hx₁ b o (ne_of_get (get_new _) e) e
  exact bind1 O hx hxN hk1 (I.kp (kp_of' g₁)) (d1.mono g₁.mono) fun s₂ I₂ r₂ => bind1 O hy hyN hk2 I₂ ((d2.mono g₁.mono).mono r₂.1) fun s₃ I₃ r₃ => wpAny_assignInOrder_none (hQ s₃ I₃ ((Rel.kp (kp_of' g₁)).trans (r₂.trans r₃)))
include O hx hy hz hxN hyN hzN hk1 hk2 hk3 in
theorem unpack3 (I : SInv mg mb hG env nm N cx K X α σ s) (pv : Den s.heap X (.tup [a, b, c]) v) {Q : Unit → Shared → Prop} {E : Value → Shared → Prop}
    (hQ : ∀ s', SInv mg mb hG env nm N cx K X α (put (put (put σ x (.val a)) y (.val b)) z (.val c)) s' → Rel K X s X s' → Q () s') : wpAny (model prog w) A (assign (.Tuple [.Name n1 p1, .Name n2 p2, .Name n3 p3] k tp) env v) Q E s := by
  obtain ⟨t, v1, v2, v3, rfl, hXt, htup, d1, d2, d3⟩ := den_three pv
  refine wpAny_assign_Tuple O.hh htup rfl rfl fun h₁ hx₁ => ?_
  have g₁ : Grow s.heap h₁ := fun b o e => hx₁ b o (ne_of_get (get_new _) e) e
  exact bind1 O hx hxN hk1 (I.kp (kp_of' g₁)) (d1.mono g₁.mono) fun s₂ I₂ r₂ => bind1 O hy hyN hk2 I₂ ((d2.mono g₁.mono).mono r₂.1) fun s₃ I₃ r₃ => bind1 O hz hzN hk3 I₃ ((d3.mono g₁.mono).mono (r₂.trans r₃).1) fun s₄ I₄ r₄ =>
    wpAny_assignInOrder_none (hQ s₄ I₄ ((Rel.kp (kp_of' g₁)).trans (r₂.trans (r₃.trans r₄))))
include O hx hy hxN hyN hk1 hk2 in
theorem so_unp2 (he : Snd prog w mg mb hG A Φ nm env e ce) (hs : swapsWithSole [.Tuple [.Name n1 p1, .Name n2 p2] k tp] e pos.line env = pure false) (hw : swappedStores [.Tuple [.Name n1 p1, .Name n2 p2] k tp] e env = pure none) :
    SO prog w mg mb hG A Φ nm N cx env (.Assign [.Tuple [.Name n1 p1, .Name n2 p2] k tp] e pos) (.unp2 x y ce) :=
  fun _ _ X α _ _ _ _ I h => tup2_k h fun a b h1 h => pr h (Assign_Tuple (ev1 he I.e h1 fun v s1 k1 _ p1 => unpack2 O hx hy hxN hyN hk1 hk2 (I.kp k1) p1 fun s' I' r' => ⟨X, α, I', (Rel.kp k1).trans r', rfl⟩) hs hw)
include O hx hy hz hxN hyN hzN hk1 hk2 hk3 in
theorem so_unp3 (he : Snd prog w mg mb hG A Φ nm env e ce) (hs : swapsWithSole [.Tuple [.Name n1 p1, .Name n2 p2, .Name n3 p3] k tp] e pos.line env = pure false) (hw : swappedStores [.Tuple [.Name n1 p1, .Name n2 p2, .Name n3 p3] k tp] e env = pure none) :
    SO prog w mg mb hG A Φ nm N cx env (.Assign [.Tuple [.Name n1 p1, .Name n2 p2, .Name n3 p3] k tp] e pos) (.unp3 x y z ce) :=
  fun _ _ X α _ _ _ _ I h => tup3_k h fun a b c h1 h => pr h (Assign_Tuple (ev1 he I.e h1 fun v s1 k1 _ p1 => unpack3 O hx hy hz hxN hyN hzN hk1 hk2 hk3 (I.kp k1) p1 fun s' I' r' => ⟨X, α, I', (Rel.kp k1).trans r', rfl⟩) hs hw)
include O hx hy hxN hyN hk1 hk2 in
theorem so_swp {a b : Expr} {ca cb : E} (pa : plainE a = true) (pb : plainE b = true) (ha : Snd prog w mg mb hG A Φ nm env a ca) (hb : Snd prog w mg mb hG A Φ nm env b cb)
    (hw : swappedStores [.Tuple [.Name n1 p1, .Name n2 p2] k tp] (.Tuple [a, b] k2 tp2) env = pure (some [n1, n2])) :
    SO prog w mg mb hG A Φ nm N cx env (.Assign [.Tuple [.Name n1 p1, .Name n2 p2] k tp] (.Tuple [a, b] k2 tp2) pos) (.swp x y ca cb) := by
  intro n' K X α σ s σ' fl I h
  refine kD_k h fun d1 h1 h => kD_k h fun d2 h2 h => pr h (Assign_Tuple_swapped (wpAny_Tuple (items2 pa pb ha hb I.e h1 h2 fun v u s1 k1 _ p1 p2 => ⟨small_size (Nat.le_of_ble_eq_true rfl), ?_⟩)) rfl hw)
  generalize hob : ({ cls := .type "tuple", data := .seq ([v, u] : List Value).toArray } : Obj) = ob
  have htup : (s1.heap.push ob).IsTuple s1.heap.objs.size #[v, u] := by subst hob; exact ⟨_, Heap.get?_push_size _ rfl, rfl, 0, rfl⟩
  refine wpAny_unpackItems_tuple (items := #[v, u]) (s := { s1 with heap := s1.heap.push ob }) O.hh htup fun h₁ hx₁ => ?_
  have g₁ : Grow (s1.heap.push ob) h₁ := fun b o e => hx₁ b o (ne_of_get (get_new _) e) e
  have k₂ : Kp s { s1 with heap := h₁ } := (k1.trans (kp_push s1 ob)).trans ⟨⟨h₁, s1.toks, rfl, g₁⟩, Nat.le_refl _⟩
  have g₂ : Grow s1.heap h₁ := (grow_push _ _).trans g₁
  refine wpAny_assignInOrder_more (bindName_ (store_val hy hyN (fun q hq h => O.inj q y hq hyN (h.trans hy.symm)) O.hE (I.kp k₂) hk2 (p2.mono g₂.mono) fun s₃ I₃ r₃ => ?_))
  refine wpAny_assignInOrder_more (bindName_ (store_val hx hxN (fun q hq h => O.inj q x hq hxN (h.trans hx.symm)) O.hE I₃ hk1 ((p1.mono g₂.mono).mono r₃.1) fun s₄ I₄ r₄ => ?_))
  exact wpAny_assignInOrder_none ⟨X, α, I₄, (Rel.kp k₂).trans (r₃.trans r₄), rfl⟩
end

end
end Mine
end

/-! S18 -/
section
open PySem PySem.W PyProof.Rows
set_option maxRecDepth 4000

namespace Mine
section
variable {prog : Program} {w : World} {mg mb : Str → Option Value} {hG : Heap} {A : Around} {Φ : Str → List D → Option D} {nm : Nat → Str} {N : Nat} {cx : Cx} {env : Env}
variable {e : Expr} {ce : E} {p pos : Pos} {x : Nat} {n : Str}

/-- an object that was not there comes under guard -/
theorem SInv.guard {K X α σ s s'} {a : Addr} (I : SInv mg mb hG env nm N cx K X α σ s) (k : Kp s s') (hn : s.heap.get? a = none) (hs : ∃ o, s'.heap.get? a = some o) :
    SInv mg mb hG env nm N cx (Add1 K a) (Add1 X a) α σ s' ∧ Rel K X s (Add1 X a) s' := by
  have nn : ∀ b, (∃ o, s.heap.get? b = some o) → b ≠ a := fun b ⟨_, e⟩ => ne_of_get hn e
  have aX : ∀ {b}, X b → b ≠ a := fun {b} hb => nn b (I.e.live b hb)
  have g := k.grow
  have mono : Mono s.heap X s'.heap (Add1 X a) := fun b ob e n => ⟨g _ _ e, fun h => h.elim n (nn b ⟨_, e⟩)⟩
  have J := I.kp k
  refine ⟨⟨⟨J.e.bas, J.e.tok, fun b hb => hb.elim (J.e.live b) fun h => h ▸ hs, fun y => (I.e.slots y).map (fun _ l => l.grow g) mono (fun _ => ⟨rfl, .inl, fun _ e => g _ _ e⟩) fun _ _ => rfl⟩, fun b hb => hb.imp (I.sub b) id, fun b hb => ?_, J.rest, .inl I.fX, fun h => h.elim I.fK (aX I.fX), I.fY, J.fns, fun n hn' => ?_, fun y hm => ?_, I.dom, fun b hb => ?_⟩, mono, fun _ _ _ e => g _ _ e, k.2⟩
  · obtain ⟨a1, a2, ps, e, t, T⟩ := I.ysub b hb
    exact ⟨.inl a1, fun h => h.elim a2 (aX a1), ps, g _ _ e, t, cx.hT _ _ _ _ _ mono T⟩
  · obtain ⟨c, h1, h2, h3, h4⟩ := J.cell n hn'
    exact ⟨c, h1, .inl h2, fun h => h.elim h3 (aX h2), h4⟩
  · obtain ⟨a1, a2⟩ := I.own y hm
    exact ⟨⟨fun h => h.elim a1.k (nn _ (mut_alive hm (I.e.slots y))), a1.y, a1.f, a1.c⟩, a2⟩
  · exact (I.glob b hb).imp (fun h h' => h'.elim h (nn b (I.e.bas.gl hb))) .inl

/-- a guarded object is changed -/
theorem SInv.tick {K X X' : Addr → Prop} {K' : Addr → Prop} {α σ s} {a : Addr} {h' : Heap} {t : Nat} (I : SInv mg mb hG env nm N cx K X α σ s) (hK : K a) (hg : ¬ Gl hG a)
    (hs : ∀ b o, b ≠ a → s.heap.get? b = some o → h'.get? b = some o) (ht : s.toks ≤ t)
    (hX : ∀ b, X' b → X b) (hX' : ∀ b, X b → b ≠ a → X' b) (hal : X' a → ∃ o, h'.get? a = some o) (hK1 : ∀ b, K' b → K b ∧ X' b) (hK2 : ∀ b, K b → b ≠ a → K' b) :
    SInv mg mb hG env nm N cx K' X' α σ { s with heap := h', toks := t } := by
  have hXa := I.sub a hK
  have fa : env.locals ≠ a := fun h => I.fK (h ▸ hK)
  have ca : ∀ n c, env.kindOf n = some .cell → env.cells.lookup n = some c → c ≠ a := by
    intro n c hk hc h
    obtain ⟨c', h1, _, h3, _⟩ := I.cell n hk
    rw [hc] at h1
    cases h1
    exact h3 (h ▸ hK)
  have lk : ∀ n v, Look env s.heap n v → Look env h' n v := by
    rintro n v (⟨k, m, hn, e⟩ | ⟨k, c, hl, ⟨o, ho, hd⟩⟩)
    · exact .inl ⟨k, m, hn.at' fun o e => hs _ o fa e, e⟩
    · exact .inr ⟨k, c, hl, o, hs _ o (ca n c k hl) ho, hd⟩
  refine ⟨⟨I.e.bas.at fun b o hb e => hs b o (fun h => hg (h ▸ hb)) e, Nat.le_trans I.e.tok ht, fun b hb => ?_, fun y => ?_⟩, fun b hb => (hK1 b hb).2, fun b hb => ?_, cx.hR _ _ _ I.rest, hX' _ I.fX fa, fun h => I.fK (hK1 _ h).1, I.fY, ?_, fun n hn => ?_, fun y hm => ?_, I.dom, fun b hb => ?_⟩
  · by_cases hba : b = a
    · subst hba; exact hal hb
    · obtain ⟨o, e⟩ := I.e.live b (hX b hb)
      exact ⟨o, hs b o hba e⟩
  · exact (I.e.slots y).tick hXa hs hX hX' (fun v l => lk _ v l) fun hm h => (I.own y hm).1.k (h ▸ hK)
  · obtain ⟨a1, a2, ps, e, t, T⟩ := I.ysub b hb
    have hba : b ≠ a := fun h => a2 (h ▸ hK)
    exact ⟨hX' _ a1 hba, fun h => a2 (hK1 b h).1, ps, hs b _ hba e, t, cx.hT _ _ _ _ _ (fun c o e n => ⟨hs c o (fun h => n (h ▸ hXa)) e, fun h => n (hX c h)⟩) T⟩
  · obtain ⟨m, hm⟩ := I.fns
    exact ⟨m, hm.at' fun o e => hs _ o fa e⟩
  · obtain ⟨c, h1, h2, h3, h4, h5, ⟨v, o, ho, hd⟩, h7⟩ := I.cell n hn
    have hc := ca n c hn h1
    exact ⟨c, h1, hX' _ h2 hc, fun h => h3 (hK1 c h).1, h4, h5, ⟨v, o, hs c o hc ho, hd⟩, h7⟩
  · obtain ⟨a1, a2⟩ := I.own y hm
    exact ⟨⟨fun h => a1.k (hK1 _ h).1, a1.y, a1.f, a1.c⟩, a2⟩
  · rcases I.glob b hb with h | h
    · exact .inl fun h' => h (hX b h')
    · exact .inr (hK2 b h fun h' => hg (h' ▸ hb))

theorem not_glob {K X α σ s} {a : Addr} (I : SInv mg mb hG env nm N cx K X α σ s) (hn : s.heap.get? a = none) : ¬ Gl hG a := fun hb => let ⟨_, e1⟩ := I.e.bas.gl hb; nope (hn.symm.trans e1)

/-- between the turns of a for -/
inductive FInv (mg mb : Str → Option Value) (hG : Heap) (nm : Nat → Str) (N : Nat) (cx : Cx) (env : Env) (K X : Addr → Prop) (s0 : Shared) (I : Addr) (St : Nat → Heap → Prop) (f : Slots → Rs) (x : Nat) (ds : List D) (σ' : Slots) (fl : Flw) (m : Nat) (s₁ : Shared) : Prop
  | mk (i : Nat) (X₁ : Addr → Prop) (α₁ : Nat → Addr) (σ₁ : Slots) (hm : m = ds.length - i) (hi : i ≤ ds.length) (I₁ : SInv mg mb hG env nm N cx (Add1 K I) X₁ α₁ σ₁ s₁) (R₁ : Rel K X s0 X₁ s₁) (hst : St i s₁.heap) (hr : loopL f x (ds.drop i) σ₁ = some (σ', fl))

section
variable {K X X₁ X₂ : Addr → Prop} {α : Nat → Addr} {σ : Slots} {s0 s₁ s₂ : Shared} {I : Addr}
/-- a change at the guarded object alone -/
theorem Rel.but {h' : Heap} {t : Nat} (hI : s0.heap.get? I = none) (R : Rel K X s0 X₁ s₁) (hX : ∀ b, X₂ b → X₁ b) (hs : ∀ b o, b ≠ I → s₁.heap.get? b = some o → h'.get? b = some o) (ht : s₁.toks ≤ t) : Rel K X s0 X₂ { s₁ with heap := h', toks := t } :=
  ⟨fun b o e n => let ⟨e1, n1⟩ := R.1 b o e n; ⟨hs b o (ne_of_get hI e) e1, fun h => n1 (hX b h)⟩, fun b o kb e => hs b o (ne_of_get hI e) (R.2.1 b o kb e), Nat.le_trans R.2.2 ht⟩
theorem Rel.deep (R : Rel K X s0 X₁ s₁) (r : Rel (Add1 K I) X₁ s₁ X₂ s₂) : Rel K X s0 X₂ s₂ :=
  ⟨R.1.trans r.1, fun b o kb e => r.2.1 b o (.inl kb) (R.2.1 b o kb e), Nat.le_trans R.2.2 r.2.2⟩
end

theorem for_core {body : List Stmt} {cb : List S} {ds : List D} {fp : List Addr} {P : Nat → Value → Prop} {St : Nat → Heap → Prop} {I : Addr} {K X α σ σ' fl} {s0 s : Shared} {n' : Nat}
    (O : Ok A nm N env) (hx : nm x = n) (hxN : x < N) (hk : env.kindOf n = some .local ∨ env.kindOf n = some .cell) (hb : SS prog w mg mb hG A Φ nm N cx env body cb)
    (W : Walks prog w A I fp [I] ds.length P St) (I0 : SInv mg mb hG env nm N cx K X α σ s0) (kp : Kp s0 s) (hI : s0.heap.get? I = none) (hst : St 0 s.heap)
    (hfp : ∀ b ∈ fp, b = I ∨ (∃ o, s0.heap.get? b = some o ∧ ¬ X b)) (hal : ∀ i h, St i h → ∃ o, h.get? I = some o)
    (hval : ∀ i v d s₁ X₁, P i v → ds[i]? = some d → Rel K X s0 X₁ s₁ → Den s₁.heap X₁ d v)
    (hrun : loopL (run Φ n' cb) x ds σ = some (σ', fl)) :
    codeAny (model prog w) A (.forLoop (.Name n p) (.ref I) body [] env) (fun r s' => match r with | .ok f => Post mg mb hG nm N cx env K X s0 σ' fl f s' | .error e => cameBackBy (model prog w) A env (fun _ _ => False) e s') s := by
  have hgl := not_glob I0 hI
  obtain ⟨J0, R0⟩ := I0.guard kp hI (hal _ _ hst)
  have hKI : ¬ K I := fun h => let ⟨_, e⟩ := I0.e.live I (I0.sub I h); nope (hI.symm.trans e)
  -- what is left when the loop is over
  have over : ∀ {X₁ α₁ σ₁ s₁ h' t}, SInv mg mb hG env nm N cx (Add1 K I) X₁ α₁ σ₁ s₁ → Rel K X s0 X₁ s₁ → (∀ b o, b ≠ I → s₁.heap.get? b = some o → h'.get? b = some o) → s₁.toks ≤ t →
      SInv mg mb hG env nm N cx K (Del1 X₁ (I)) α₁ σ₁ { s₁ with heap := h', toks := t } ∧ Rel K X s0 (Del1 X₁ (I)) { s₁ with heap := h', toks := t } := fun J R hs ht =>
    ⟨J.tick (.inr rfl) hgl hs ht (fun b h => h.1) (fun b h h' => ⟨h, h'⟩) (fun h => absurd rfl h.2) (fun b h => ⟨.inl h, J.sub b (.inl h), fun h' => hKI (h' ▸ h)⟩) (fun b h h' => h.elim id fun h => absurd h h'), R.but hI (fun _ h => h.1) hs ht⟩
  have frame : ∀ {i X₃ s₃ X₄ s₄}, Rel K X s0 X₃ s₃ → Rel (Add1 K I) X₃ s₃ X₄ s₄ → St i s₃.heap → St i s₄.heap := fun r r' h => W.frame _ _ _ h fun b hb o e =>
    (hfp b hb).elim (fun h => r'.2.1 _ o (.inr h) e) fun ⟨o', e', n'⟩ => (r'.1 b o e (r.1 b o' e' n').2).1
  refine codeAny_forLoop (FInv mg mb hG nm N cx env K X s0 I St (run Φ n' cb) x ds σ' fl) ?_ (ds.length - 0) ⟨0, _, α, σ, rfl, Nat.zero_le _, J0, R0, hst, hrun⟩
  rintro m s₁ ⟨i, X₁, α₁, σ₁, rfl, hi, I₁, R₁, hst₁, hrun₁⟩
  refine wpAny_noRaise ?_
  rcases Nat.lt_or_ge i ds.length with hlt | hge
  · refine wpAny_with_toks (Nat.le_refl _) (W.item i s₁ _ _ hlt hst₁ fun v h₂ tk₂ hPv hst₂ hk₂ ht₂ => ?_)
    have hs₂ : ∀ b o, b ≠ I → s₁.heap.get? b = some o → h₂.get? b = some o := fun b o hb e => hk₂ b o (not_one hb) e
    replace hrun₁ := (congrArg (fun l => loopL (run Φ n' cb) x l σ₁) (List.drop_eq_getElem_cons hlt)).symm.trans hrun₁
    have I₂ : SInv mg mb hG env nm N cx (Add1 K I) X₁ α₁ σ₁ { s₁ with heap := h₂, toks := tk₂ } :=
      I₁.tick (.inr rfl) hgl hs₂ ht₂ (fun _ h => h) (fun _ h _ => h) (fun _ => hal _ _ hst₂) (fun b h => ⟨h, I₁.sub b h⟩) (fun _ h _ => h)
    have R₂ : Rel K X s0 X₁ { s₁ with heap := h₂, toks := tk₂ } := R₁.but hI (fun _ h => h) hs₂ ht₂
    refine wpAny_noRaise (wpAny_assign_Name (store_val hx hxN (fun z hz h => O.inj z x hz hxN (h.trans hx.symm)) O.hE I₂ hk (hval i v _ _ _ hPv (List.getElem?_eq_getElem hlt) R₂) fun s₃ I₃ r₃ => wpAny_noRaise ?_))
    have R₃ : Rel K X s0 X₁ s₃ := R₂.deep r₃
    obtain ⟨⟨σ₄, f₄⟩, hr⟩ := seqL_hd (k := loopL (run Φ n' cb) x (ds.drop (i + 1))) (r := run Φ n' cb (put σ₁ x (.val ds[i]))) hrun₁
    replace hrun₁ := (congrArg (seqL (loopL (run Φ n' cb) x (ds.drop (i + 1)))) hr).symm.trans hrun₁
    refine wpM (hb n' _ X₁ α₁ _ s₃ σ₄ f₄ I₃ hr) fun f s₄ pst => ?_
    obtain ⟨X₄, α₄, I₄, r₄, hf⟩ := pst
    have R₄ := R₃.deep r₄
    cases f₄ with
    | nxt => subst hf; exact ⟨_, Nat.sub_succ_lt_self _ _ hlt, i + 1, X₄, α₄, σ₄, rfl, hlt, I₄, R₄, frame R₃ r₄ (frame R₂ r₃ hst₂), hrun₁⟩
    | brk =>
      subst hf
      obtain ⟨z1, z2⟩ := over I₄ R₄ (fun _ _ _ e => e) (Nat.le_refl _)
      exact pr hrun₁ ⟨_, _, z1, z2, rfl⟩
    | ret d =>
      obtain ⟨u, rfl, pu⟩ := hf
      obtain ⟨z1, z2⟩ := over I₄ R₄ (fun _ _ _ e => e) (Nat.le_refl _)
      exact pr hrun₁ ⟨_, _, z1, z2, u, rfl, pu.mono fun b o e n => ⟨e, fun h => n h.1⟩⟩
  · have hin : i = ds.length := Nat.le_antisymm hi hge
    subst hin
    refine wpAny_with_toks (Nat.le_refl _) (W.done s₁ _ _ hst₁ fun h₂ tk₂ hk₂ ht₂ => ?_)
    replace hrun₁ := (congrArg (fun l => loopL (run Φ n' cb) x l σ₁) List.drop_length).symm.trans hrun₁
    obtain ⟨z1, z2⟩ := over I₁ R₁ (h' := h₂) (t := tk₂) (fun b o hb e => hk₂ b o (not_one hb) e) ht₂
    exact pr hrun₁ (wpAny_execs_nil ⟨_, _, z1, z2, rfl⟩)

theorem so_forl {body : List Stmt} {cb : List S} {it : Expr} {ci : E} (O : Ok A nm N env) (hi : Snd prog w mg mb hG A Φ nm env it ci) (hx : nm x = n) (hxN : x < N) (hk : env.kindOf n = some .local ∨ env.kindOf n = some .cell)
    (hs : ∀ x, foldedSetIterable it env x = pure x) (hb : SS prog w mg mb hG A Φ nm N cx env body cb) : SO prog w mg mb hG A Φ nm N cx env (.For (.Name n p) it body [] pos) (.forl x ci cb) := by
  intro n' K X α σ s σ' fl I h
  refine kL_k h fun l h1 h => wpAny_For (ev1 hi I.e h1 fun v s1 k1 _ p1 => ?_) hs
  obtain ⟨a, vs, rfl, hXa, hl, q⟩ := den_list_inv p1
  refine src_list (X := X) O.hh hl.isList q fun It fp P St s2 k2 S hst hIt hIt' hlist hfp => codeAny_mono (for_core (s0 := s1) O hx hxN hk hb S.W (I.kp k1) k2 (get_ge hIt') hst (fun b hb => (hfp b hb).imp id fun h => ?_) (fun i h z => (let ⟨o, e, _⟩ := hlist i h z; ⟨o, e⟩)) (fun i v d s₁ X₁ hP hd R => (S.val i v d _ hP hd (Grow.refl _)).mono R.1) h) fun r s' hr => ?_
  · obtain ⟨n, e⟩ := hl
    exact h ▸ ⟨_, e, hXa⟩
  · cases r with
    | ok f => exact hr.trans (Rel.kp k1)
    | error e => exact hr

theorem rangeL_scal {n : Int} {i : Nat} {d : D} (h : (rangeL n)[i]? = some d) : scal d = true := by
  unfold rangeL at h
  rw [List.getElem?_map] at h
  cases hz : (List.range n.toNat)[i]? with
  | none => rw [hz] at h; exact nope h
  | some j => rw [hz] at h; exact Option.some.inj h ▸ rfl

theorem so_forr {body : List Stmt} {cb : List S} {it : Expr} {ci : E} {r : Str} {rp rpos : Pos} (O : Ok A nm N env) (hb' : Built mg mb) (hr : r = "range") (hkr : env.kindOf r = some .globalImplicit) (pi : plainE it = true) (hi : Snd prog w mg mb hG A Φ nm env it ci) (hx : nm x = n) (hxN : x < N) (hk : env.kindOf n = some .local ∨ env.kindOf n = some .cell)
    (hb : SS prog w mg mb hG A Φ nm N cx env body cb) : SO prog w mg mb hG A Φ nm N cx env (.For (.Name n p) (.Call (.Name r rp) [it] [] rpos) body [] pos) (.forr x ci cb) := by
  intro n' K X α σ s σ' fl I h
  subst hr
  refine kI_k h fun l h1 h => if_k h fun hlen h => wpAny_For (Call_ (eval_built O.hE (by decide +kernel) hkr I.e.bas hb'.range (callWith_type1 (wpAny_items_cons (ev1 hi I.e h1 fun v s1 k1 _ p1 => wpAny_items_nil ?_) (starEach_plain pi)) (starEach_plain pi) rfl)) rfl)
  obtain ⟨t, rfl⟩ := den_int_inv p1
  refine src_range (X := X) O.hh hlen.1 hlen.2 fun h0 It fp P St s2 k2 g1 g2 S hst hIt hIt' hfp hal => codeAny_mono (for_core (s0 := s1) O hx hxN hk hb S.W (I.kp k1) k2 (none_of g1 hIt') hst (fun b hb => .inl (hfp b hb)) hal (fun i v d s₁ X₁ hP hd R => (S.val i v d _ hP hd (Grow.refl _)).scal (rangeL_scal hd)) h) fun r s' hr => ?_
  cases r with
  | ok f => exact hr.trans (Rel.kp k1)
  | error e => exact hr

end
end Mine
end

/-! S19 -/
section
open PySem PySem.W PyProof.Rows
set_option maxRecDepth 8000

namespace Mine
open Builtin

theorem slot_mget : Slot "method_descriptor" "__get__" "method_descriptor.__get__" :=
  .of (owner := "method_descriptor") (n := "__get__") (by rw [typeLookup_type, builtinLookup_eq_fast]; kernel_rfl) (by decide +kernel) (by decide +kernel) (by decide +kernel)
    (by first | exact .inl (by decide +kernel) | exact .inr (by decide +kernel)) (by rw [isSubtype_type]; kernel_rfl)
theorem entry_mget : entryFor table "method_descriptor.__get__" = some Builtin.«method_descriptor.__get__» := entryFor_of_tree (by kernel_rfl)
theorem args_mget (a b c : Value) : argsOk "method_descriptor.__get__" ⟨[a, b, c], []⟩ := by unfold argsOk; kernel_rfl

theorem run_mget {M : Model} {A : Around} {E : Value → Shared → Prop} {s : Shared} {P : Fin → Shared → Prop} {a : Addr} {vs : Array Value} (hl : s.heap.PlainList a vs) (h : P (.done (.ret (.ref s.heap.objs.size))) { s with heap := s.heap.push (boundObj a) }) :
    wpAny M A (Builtin.«method_descriptor.__get__» ⟨[.builtin "list.append", .ref a, .type "list"], []⟩) P E s := by
  obtain ⟨k, hx⟩ := hl
  obtain ⟨hp, g, d, tk, os⟩ := s
  have hT : (⟨hp, g, d, tk, os⟩ : Shared).TypeIs (.ref a) "list" := ⟨_, hx, rfl⟩
  have f3 := sub_list_list
  unfold Builtin.«method_descriptor.__get__»
  refine wpAny_bind (wpAny_of_eq (a := (.builtin "list.append", some (.ref a), some (.type "list"))) (by first | rfl | kernel_rfl) ?_)
  dsimp only
  simp only [show Manifest.toldItsClass.contains "list.append" = false by decide +kernel, Bool.false_eq_true, if_false]
  refine wpAny_bind (wpAny_bind (wpAny_of_eq (a := ((PySem.Str.ofString "append"), .type "list")) (by first | rfl | kernel_rfl) ?_))
  repeat (any_goals (first | assumption | wp_step))

theorem call_mget {prog : Program} {w : World} {A : Around} {E : Value → Shared → Prop} {s : Shared} {Q : Value → Shared → Prop} {a : Addr} {vs : Array Value} (hl : s.heap.PlainList a vs) (h : Q (.ref s.heap.objs.size) { s with heap := s.heap.push (boundObj a) }) :
    wpAny (model prog w) A (call (.builtin "method_descriptor.__get__") [.builtin "list.append", .ref a, .type "list"]) Q E s :=
  wpAny_call_entry slot_mget PySem.F.type_list_append entry_mget (run_mget hl ⟨_, rfl, h⟩) (args_mget _ _ _)

theorem md_set : typeLookup (.type "method_descriptor") (PySem.Str.ofString "__set__") = pure none := by rw [typeLookup_type, builtinLookup_eq_fast]; kernel_rfl
theorem md_delete : typeLookup (.type "method_descriptor") (PySem.Str.ofString "__delete__") = pure none := by rw [typeLookup_type, builtinLookup_eq_fast]; kernel_rfl

theorem ga_append (a : Addr) (xs : Array Value) (k : Nat) (u : Tok) :
    Meets (Builtin.«object.__getattribute__» ⟨[.ref a, .str (PySem.Str.ofString "append") u], []⟩) (fun A R s => s.heap.get? a = some { cls := .type "list", dict := none, data := .seq xs k } ∧ R (.ok (.ret (.ref s.heap.objs.size))) { s with heap := s.heap.push (boundObj a) }) :=
  Meets.of_wp fun prog w A R s hs => by
    obtain ⟨hx, hs⟩ := hs
    have hl : s.heap.PlainList a xs := ⟨k, hx⟩
    obtain ⟨hp, g, d, tk, os⟩ := s
    have hT : (⟨hp, g, d, tk, os⟩ : Shared).TypeIs (.ref a) "list" := ⟨_, hx, rfl⟩
    have f1 := PySem.F.slot_list_append.lookup
    have f2 := PySem.F.slot_list_append.bind (.ref a)
    have f3 := PySem.F.type_list_append
    have f4 := slot_mget.lookup
    have f5 := md_set
    have f6 := md_delete
    unfold Builtin.«object.__getattribute__»
    repeat (any_goals (first | assumption | ((with_reducible show wpAny _ _ (call (Value.builtin "method_descriptor.__get__") _ _) _ _ _); refine call_mget hl ?_) | wp_step))
    exact ⟨_, rfl, hs⟩

theorem getAttr_append {prog : Program} {w : World} {A : Around} {E : Value → Shared → Prop} {s : Shared} {a : Addr} {xs : Array Value} {Q : Value → Shared → Prop}
    (hl : s.heap.PlainList a xs) (h : Q (.ref s.heap.objs.size) { s with heap := s.heap.push (boundObj a), toks := s.toks + 1 }) :
    wpAny (model prog w) A (getAttr (.ref a) (PySem.Str.ofString "append") true) Q E s := by
  obtain ⟨k, hx⟩ := hl
  obtain ⟨hp, g, d, tk, os⟩ := s
  have hT : ∀ tk', (⟨hp, g, d, tk', os⟩ : Shared).TypeIs (.ref a) "list" := fun _ => ⟨_, hx, rfl⟩
  have f1 := sub_AttributeError
  have f3 := PySem.F.slot_list_getattribute.lookup
  have f4 := PySem.F.slot_list_getattribute.bind (.ref a)
  have f5 := am_list_getattr_none
  unfold getAttr getAttrBy
  repeat (any_goals (first | assumption | exact hT _ | ((with_reducible show wpAny _ _ (call (Value.builtin "list.__getattribute__") _ _) _ _ _); refine call_meets PySem.F.slot_list_getattribute (hT _) am_entry_list_getattribute (PySem.F.args_list_getattribute_2 _ _) (ga_append a xs k _) ⟨hx, ?_⟩) | wp_step))
  exact wpAny_pure h

theorem check_append {M : Model} {A : Around} {E : Value → Shared → Prop} {s : Shared} {a : Addr} {items : Array Value} {v : Value} {Q : Unit → Shared → Prop} (hl : s.heap.PlainList a items) (h : Q () s) : wpAny M A (checkBoundCall "list.append" ⟨[.ref a, v], []⟩) Q E s := by
  obtain ⟨k, hx⟩ := hl
  have f1 : isSubtype (.type "list") (.type "module") = pure false := by rw [isSubtype_type]; kernel_rfl
  have f2 : isSubtype (.type "list") (.type "type") = pure false := by rw [isSubtype_type]; kernel_rfl
  have hT : s.TypeIs (.ref a) "list" := ⟨_, hx, rfl⟩
  have hf : (Manifest.signature? "list.append").map (·.full) = some "list.append" := by kernel_rfl
  have ha := args_list_append (.ref a) v
  unfold argsOk at ha
  unfold checkBoundCall
  cases e1 : Manifest.signature? "list.append" with
  | none => exact wpAny_pure h
  | some sig =>
    rw [e1] at hf ha
    simp only [Option.map_some, Option.some.injEq] at hf
    obtain ⟨mach, full, short, rec, ps⟩ := sig
    simp only at hf
    subst hf
    have e2 : builtinKind "list.append" = some .method := by kernel_rfl
    have e3 : Bind.lastOf "list.append" = "append" := by decide +kernel
    have e4 : Bind.lastOf "list" = "list" := by decide +kernel
    have e5 : Manifest.varargsMethods.contains "list.append" = false := by decide +kernel
    simp only [e2, e3, e5]
    have e6 : (toString (Bind.lastOf "list") ++ toString "." ++ toString "append") = "list.append" := by decide +kernel
    repeat (any_goals (first | assumption | ((with_reducible show wpAny _ _ (Bind.checkArgs _ _ _) _ _ _); exact wpAny_of_eq (a := ()) (by rw [e6]; exact ha) h) | wp_step))
theorem quiet_append {as : Args} : (Code.builtin "list.append" as).quiet = true := Code.quiet_builtin _ (by decide +kernel)

theorem call_bound {prog : Program} {w : World} {A : Around} {E : Value → Shared → Prop} {s : Shared} {q a : Addr} {items : Array Value} {v : Value} {Q : Value → Shared → Prop} (ho : s.heap.get? q = some (boundObj a)) (hl : s.heap.PlainList a items)
    (hQ : ∀ h', h'.PlainList a (items.push v) → Heap.SameBut a s.heap h' → Q .none { s with heap := h' }) (hsz : items.size ≤ sizeLine) : wpAny (model prog w) A (call (.ref q) [v]) Q E s := by
  refine wpAny_call (codeAny_of_tree ?_)
  show wpAny _ A.in1 (callAny (.ref q) ⟨[v], []⟩) _ _ s
  simp only [callAny]
  refine wpAny_bind (wpAny_load ho ?_)
  simp only [boundObj, show (Value.type "builtin_function_or_method" == Value.type "method" || Value.type "builtin_function_or_method" == Value.type "builtin_function_or_method" || Value.type "builtin_function_or_method" == Value.type "method-wrapper") = true by decide, if_true]
  show wpAny _ _ (if (Value.type "builtin_function_or_method" != Value.type "method") = true then _ else _) _ _ s
  rw [if_pos (by decide)]
  refine wpAny_bind (check_append hl ?_)
  refine wpAny_pure ⟨quiet_append, codeAny_builtin entry_list_append ?_⟩
  obtain ⟨n, hx⟩ := hl
  show wpAny _ _ (updateSeq a (·.push v) >>= fun _ => ret .none) _ _ s
  refine wpAny_bind ?_
  refine wpAny_updateSeq hx rfl (wpAny_pure (hQ _ ⟨_, Heap.get?_update_self _ hx rfl⟩ (Heap.SameBut.update ..))) (hz := hsz) (_hz' := ?_)
  rw [Array.size_push]; omega

end Mine
end

/-! S20 -/
section
open PySem PySem.W PyProof.Rows
set_option maxRecDepth 4000

namespace Mine
section
variable {prog : Program} {w : World} {mg mb : Str → Option Value} {hG : Heap} {A : Around} {Φ : Str → List D → Option D} {nm : Nat → Str} {N : Nat} {cx : Cx} {env : Env}
variable {e : Expr} {ce : E} {p pos : Pos} {x : Nat} {n : Str}

/-- an own list's content is changed -/
theorem SInv.grown {K X α σ s} {y : Nat} {l l' : List D} {h' : Heap} {vs : Array Value} (I : SInv mg mb hG env nm N cx K X α σ s) (hσ : σ y = .own l) (hs : Heap.SameBut (α y) s.heap h') (hl : h'.PlainList (α y) vs) (q : DenL s.heap X l' vs.toList) :
    SInv mg mb hG env nm N cx K X α (upd σ y (.own l')) { s with heap := h' } ∧ Rel K X s X { s with heap := h' } := by
  have hm : Mut (σ y) := by rw [hσ]; exact trivial
  obtain ⟨ap, ow⟩ := I.own y hm
  have old := I.e.slots y
  rw [hσ] at old
  obtain ⟨hX, hlk, _⟩ := old
  have cell : ∀ n c, env.kindOf n = some .cell → env.cells.lookup n = some c → ∀ {v}, s.heap.IsCell c v → h'.IsCell c v := fun n c k hc {v} ⟨o, ho, hd⟩ => ⟨o, hs.extBut c o (ap.c n c k hc) ho, hd⟩
  have lk : ∀ n v, Look env s.heap n v → Look env h' n v := fun n v l => l.imp (fun ⟨k, m, hn, e⟩ => ⟨k, m, hn.sameBut hs ap.f.symm, e⟩) fun ⟨k, c, hc, h⟩ => ⟨k, c, hc, cell n c k hc h⟩
  have mutE : ∀ z, Mut (upd σ y (.own l') z) → Mut (σ z) := fun z => by
    by_cases h : z = y
    · exact fun _ => h ▸ hm
    · unfold upd; rw [if_neg h]; exact id
  exact I.at (α' := α) (σ' := upd σ y (.own l')) (h' := h') (t := s.toks) (a := α y) hX ap.k ap.y hs (Nat.le_refl _) (let ⟨_, e⟩ := hl; ⟨_, e⟩) (let ⟨m, hm⟩ := I.fns; ⟨m, hm.sameBut hs ap.f.symm⟩)
    (fun n c hk hc => by
      obtain ⟨c', h1, _, _, _, _, ⟨v, hv⟩, _⟩ := I.cell n hk
      exact ⟨v, cell n c hk hc ((Option.some.inj (hc.symm.trans h1)) ▸ hv)⟩)
    (fun z => by
      by_cases h : z = y
      · rw [h]; unfold upd; rw [if_pos rfl]
        exact ⟨hX, lk _ _ hlk, vs, hl, q.mono (sameBut_mono hX hs)⟩
      · unfold upd; rw [if_neg h]
        exact SlotOk.away hX hs (fun v l => lk _ v l) (fun hm' => ⟨ow z h hm', rfl⟩) (fun _ _ => rfl) (I.e.slots z))
    (fun z hz => ⟨(I.own z (mutE z hz)).1, fun z' h1 h2 => (I.own z (mutE z hz)).2 z' h1 (mutE z' h2)⟩)
    (fun z hz => by
      unfold upd
      rw [if_neg (fun h : z = y => SV.noConfusion ((h ▸ I.dom z hz : σ y = .un).symm.trans hσ)), I.dom z hz])

theorem notInteractive (hE : EnvOk env) : interactive env = false := by simp [interactive, hE.1]

/-- a method of an own list -/
theorem list_method {o : Expr} {m : Str} {ap : Pos} {args : List Expr} {id : String} {s : Shared} (slot : Slot "list" m id) (ty : typeOf (.builtin id) = pure (.type "method_descriptor")) (hbase : attributeBase o m env (eval o env) = eval o env)
    (pe : ∀ e ∈ args, plainE e = true) (hl : args.length < 30) (hline : (ap.endLine == pos.line) = true) {Q : Value → Shared → Prop} {E : Value → Shared → Prop}
    (h : wpAny (model prog w) A (eval o env) (fun ov s₁ => (∃ a vs, ov = .ref a ∧ s₁.heap.PlainList a vs) ∧ wpAny (model prog w) A (callWith pos (.builtin id) [ov] (backTo pos (starEach args env)) []) Q E s₁) E s) :
    wpAny (model prog w) A (eval (.Call (.Attribute o m ap) args [] pos) env) Q E s := by
  refine wpAny_Call_method_lateS hbase (few_ok pe hl) hline (wpAny_mono h (fun ov s₁ ⟨⟨a, vs, e, k, hx⟩, hc⟩ => ?_) fun _ _ x => x)
  subst e
  exact ⟨"list", id, PySem.F.plainAttrs_list, slot, ty, ⟨_, hx, rfl⟩, fun b e => by cases e; exact ⟨_, hx, rfl⟩, hc⟩

theorem own_at {K X α σ s l} (I : SInv mg mb hG env nm N cx K X α σ s) (hx : nm x = n) (hσ : σ x = .own l) : Look env s.heap n (.ref (α x)) ∧ ∃ vs, s.heap.PlainList (α x) vs ∧ DenL s.heap X l vs.toList ∧ vs.size = l.length := by
  have old := I.e.slots x
  rw [hσ] at old
  obtain ⟨hX, hlk, vs, il, q⟩ := old
  exact ⟨hx ▸ hlk, vs, il, q, Array.length_toList.symm.trans q.length⟩

theorem so_app {ap cpos : Pos} (O : Ok A nm N env) (hd : (n == ("__debug__" : Str)) = false) (pe : plainE e = true) (hl : (ap.endLine == cpos.line) = true) (he : Snd prog w mg mb hG A Φ nm env e ce) (hx : nm x = n) :
    SO prog w mg mb hG A Φ nm N cx env (.Expr (.Call (.Attribute (.Name n p) "append" ap) [e] [] cpos) pos) (.app x ce) := by
  intro n' K X α σ s σ' fl I h
  refine kD_k h fun d h1 h => kOwn_k h fun l hσ h => if_k h fun hlen h => pr h ?_
  obtain ⟨hlk, vs, il, q, hsz⟩ := own_at I hx hσ
  refine wpAny_Expr_any (list_method slot_list_append PySem.F.type_list_append rfl (pe1 pe) (Nat.le_of_ble_eq_true rfl) hl (eval_look O.hE hd hlk ⟨⟨_, vs, rfl, il⟩, callWith_b (pe1 pe) (items1 pe he I.e h1 fun v s1 k1 _ p1 =>
    wpAny_list_append_plain (hsz := by rw [hsz, ← lim_eq]; exact hlen) (il.at (k1.grow _)) fun h' hl' hs' => ?_)⟩)) (notInteractive O.hE) rfl
  obtain ⟨I2, r2⟩ := (I.kp k1).grown hσ hs' hl' (l' := l ++ [d]) (by rw [Array.toList_push]; exact (q.mono k1.grow.mono).snoc p1)
  exact ⟨X, α, I2, (Rel.kp k1).trans r2, rfl⟩

theorem so_ext {ap cpos : Pos} (O : Ok A nm N env) (hd : (n == ("__debug__" : Str)) = false) (pe : plainE e = true) (hl : (ap.endLine == cpos.line) = true) (he : Snd prog w mg mb hG A Φ nm env e ce) (hx : nm x = n) :
    SO prog w mg mb hG A Φ nm N cx env (.Expr (.Call (.Attribute (.Name n p) "extend" ap) [e] [] cpos) pos) (.ext x ce) := by
  intro n' K X α σ s σ' fl I h
  refine kL_k h fun r h1 h => kOwn_k h fun l hσ h => if_k h fun hlen h => pr h ?_
  obtain ⟨hlk, vs, il, q, e1⟩ := own_at I hx hσ
  refine wpAny_Expr_any (list_method PySem.F.slot_list_extend PySem.F.type_list_extend rfl (pe1 pe) (Nat.le_of_ble_eq_true rfl) hl (eval_look O.hE hd hlk ⟨⟨_, vs, rfl, il⟩, callWith_b (pe1 pe) (items1 pe he I.e h1 fun v s1 k1 _ p1 => ?_)⟩)) (notInteractive O.hE) rfl
  obtain ⟨b, us, rfl, hXb, bl, qb⟩ := den_list_inv p1
  have e2 : us.size = r.length := Array.length_toList.symm.trans qb.length
  have hsz : vs.size + us.size ≤ sizeLine := by rw [e1, e2, ← lim_eq]; exact hlen
  obtain ⟨k, il1⟩ := il.at (k1.grow _)
  obtain ⟨k2, bl1⟩ := bl
  refine call_meets PySem.F.slot_list_extend ⟨_, il1, rfl⟩ PySem.F.entry_list_extend (PySem.F.args_list_extend_2 _ _) (PySem.AutoSeq1.list_extend_list_list_0 (α x) vs k b us k2 (extend_door hsz) (by omega) (by omega)) ⟨il1, bl1, ?_⟩
  obtain ⟨I2, r2⟩ := (I.kp k1).grown (vs := vs ++ us) (h' := s1.heap.update (α x) (Obj.mapSeq fun x => x ++ us)) hσ (Heap.SameBut.update ..) ⟨_, by rw [Heap.get?_update_self _ il1 (by rw [mapSeq_app]; rfl), mapSeq_app]⟩ (l' := l ++ r) (by rw [Array.toList_append]; exact (q.mono k1.grow.mono).append qb)
  exact ⟨X, α, I2, (Rel.kp k1).trans r2, rfl⟩

theorem so_bnd {y : Nat} {n2 : Str} {p2 ap : Pos} (O : Ok A nm N env) (hd : (n2 == ("__debug__" : Str)) = false) (hx : nm x = n) (hxN : x < N) (hk : env.kindOf n = some .local ∨ env.kindOf n = some .cell) (hy : nm y = n2) :
    SO prog w mg mb hG A Φ nm N cx env (.Assign [.Name n p] (.Attribute (.Name n2 p2) "append" ap) pos) (.bnd x y) := by
  intro n' K X α σ s σ' fl I h
  refine kOwn_k h fun l hσ h => ?_
  replace h : (some (put σ x (.bound y), .nxt) : Rs) = some (σ', fl) := by
    by_cases hxy : x = y
    · exact nope ((if_pos hxy).symm.trans h)
    · exact (if_neg hxy).symm.trans h
  refine pr h ?_
  obtain ⟨hlk, vs, il, q, _⟩ := own_at I hy hσ
  refine wpAny_Assign_Name (Attribute_name (eval_look O.hE hd hlk (getAttr_append il ?_))) rfl
  have k1 : Kp s { s with heap := s.heap.push (boundObj (α y)), toks := s.toks + 1 } := ⟨⟨_, _, rfl, grow_push _ _⟩, Nat.le_succ _⟩
  exact store_gen (sv := .bound y) (α' := α) hx hxN (fun z hz h => O.inj z x hz hxN (h.trans hx.symm)) O.hE (I.kp k1) hk (fun _ _ => rfl) (fun t h' ht hXt hs lk => ⟨s.heap.objs.size, hx.symm ▸ lk, I.e.live.new, hs.extBut _ _ (fun h => I.e.live.new (h ▸ hXt)) (Heap.get?_push_size _ rfl)⟩) (fun h => h.elim) fun s' I' r' => ⟨X, α, I', (Rel.kp k1).trans r', rfl⟩

/-- a call of a bound append -/
theorem callWith_bnd0 {pos : Pos} {u a : Addr} {args : List (Bool × Sem Value)} {s : Shared} {Q : Value → Shared → Prop} {E : Value → Shared → Prop} (hplain : args.any (·.1) = false)
    (h : wpAny (model prog w) A (evalArgs (.ref u) true args []) (fun x s₁ => s₁.heap.get? u = some (boundObj a) ∧ wpAny (model prog w) A (call (.ref u) x.pos x.kw) Q E s₁) E s) :
    wpAny (model prog w) A (callWith pos (.ref u) [] args []) Q E s := by
  unfold callWith
  refine wpAny_bind (wpAny_holding (wpAny_mono h (fun x s₁ h₁ => wpAny_bind (wpAny_standAt ?_)) fun _ _ x => x))
  obtain ⟨ho, hcall⟩ := h₁
  simp only [hplain, List.any_nil, Bool.or_false]
  refine wpAny_bind (m := keeperOf (.ref u)) ?_
  unfold keeperOf
  refine wpAny_bind (wpAny_load ho ?_)
  simp only [boundObj, show (Value.type "builtin_function_or_method" != Value.type "method") = true by decide, show (Value.type "builtin_function_or_method" == Value.type "builtin_function_or_method" || Value.type "builtin_function_or_method" == Value.type "method-wrapper") = true by decide, if_true]
  refine wpAny_pure ?_
  exact wpAny_bind (wpAny_mono hcall (fun r s₂ hr => wpAny_bind (wpAny_holding (wpAny_point (wpAny_pure hr)))) fun _ _ x => x)
theorem callWith_bnd {pos : Pos} {u a : Addr} {e : Expr} {r : List Expr} {s : Shared} {Q : Value → Shared → Prop} {E : Value → Shared → Prop} (pe : ∀ x ∈ e :: r, plainE x = true)
    (h : wpAny (model prog w) A (spliced (backTo pos (starEach (e :: r) env))) (fun vs s₁ => s₁.heap.get? u = some (boundObj a) ∧ wpAny (model prog w) A (call (.ref u) vs) Q E s₁) E s) :
    wpAny (model prog w) A (callWith pos (.ref u) [] (backTo pos (starEach (e :: r) env)) []) Q E s := by
  have hplain := plain_any (env := env) (pos := pos) fun x hx => pe x (.tail _ hx)
  have he := starEach_plain (env := env) (r := r) (pe e (.head _))
  rw [he] at h ⊢
  exact callWith_bnd0 (by show (false || (backTo pos (starEach r env)).any (·.1)) = false; rw [hplain]; rfl) (Calls.evalArgs_plain h)

theorem so_add {cp cpos : Pos} (O : Ok A nm N env) (hd : (n == ("__debug__" : Str)) = false) (pe : plainE e = true) (he : Snd prog w mg mb hG A Φ nm env e ce) (hx : nm x = n) :
    SO prog w mg mb hG A Φ nm N cx env (.Expr (.Call (.Name n cp) [e] [] cpos) pos) (.add x ce) := by
  intro n' K X α σ s σ' fl I h
  refine kadd_k h fun y hσ h => kD_k h fun d h1 h => kOwn_k h fun l hσy h => if_k h fun hlen h => pr h ?_
  have old := I.e.slots x
  rw [hσ] at old
  obtain ⟨q0, lk0, nq, eq⟩ := old
  obtain ⟨_, vs, il, q, hsz⟩ := own_at I rfl hσy
  refine wpAny_Expr_any (Call_ (eval_look O.hE hd (hx ▸ lk0) (callWith_bnd (a := α y) (pe1 pe) (items1 pe he I.e h1 fun v s1 k1 _ p1 => ⟨k1.grow _ _ eq, call_bound (k1.grow _ _ eq) (il.at (k1.grow _)) (fun h' hl' hs' => ?_) (by rw [hsz, ← lim_eq]; exact hlen)⟩))) rfl) (notInteractive O.hE) rfl
  obtain ⟨I2, r2⟩ := (I.kp k1).grown hσy hs' hl' (l' := l ++ [d]) (by rw [Array.toList_push]; exact (q.mono k1.grow.mono).snoc p1)
  exact ⟨X, α, I2, (Rel.kp k1).trans r2, rfl⟩

end
end Mine
end

/-! S21 -/
section
open PySem PySem.W PyProof.Rows
set_option maxRecDepth 4000

namespace Mine

theorem bindL_out {k : Str → Option NameKind} : ∀ {l : List (Str × Value)} {m : Str → Option Value} {n : Str}, n ∉ l.map (·.1) → bindL k l m n = m n
  | [], _, _, _ => rfl
  | (x, v) :: r, m, n, h => by
    simp only [List.map_cons, List.mem_cons, not_or] at h
    unfold bindL
    rw [bindL_out h.2]
    split
    · exact if_neg h.1
    · rfl
theorem bindC_out {k : Str → Option NameKind} : ∀ {l : List (Str × Value)} {m : Str → Option Value} {n : Str}, n ∉ l.map (·.1) → bindC k l m n = m n
  | [], _, _, _ => rfl
  | (x, v) :: r, m, n, h => by
    simp only [List.map_cons, List.mem_cons, not_or] at h
    unfold bindC
    rw [bindC_out h.2]
    split
    · rfl
    · exact if_neg h.1
theorem bindL_in {k : Str → Option NameKind} {n : Str} {v : Value} (hk : k n = some .local) : ∀ {l : List (Str × Value)} {m : Str → Option Value}, (l.map (·.1)).Nodup → (n, v) ∈ l → bindL k l m n = some v
  | [], _, _, h => by cases h
  | (x, u) :: r, m, hn, h => by
    simp only [List.map_cons, List.nodup_cons] at hn
    unfold bindL
    rcases List.mem_cons.mp h with e | h
    · cases e
      rw [bindL_out hn.1, if_pos hk]; exact if_pos rfl
    · exact bindL_in hk hn.2 h
theorem bindC_in {k : Str → Option NameKind} {n : Str} {v : Value} (hk : k n ≠ some .local) : ∀ {l : List (Str × Value)} {m : Str → Option Value}, (l.map (·.1)).Nodup → (n, v) ∈ l → bindC k l m n = some v
  | [], _, _, h => by cases h
  | (x, u) :: r, m, hn, h => by
    simp only [List.map_cons, List.nodup_cons] at hn
    unfold bindC
    rcases List.mem_cons.mp h with e | h
    · cases e
      rw [bindC_out hn.1, if_neg hk]; exact if_pos rfl
    · exact bindC_in hk hn.2 h

theorem nodup_inj {α : Type} {l : List α} (h : l.Nodup) {i j : Nat} (hi : i < l.length) (hj : j < l.length) (e : l[i] = l[j]) : i = j := by
  have hp := List.pairwise_iff_getElem.mp h
  rcases Nat.lt_trichotomy i j with h1 | h1 | h1
  · exact absurd e (hp i j hi hj h1)
  · exact h1
  · exact absurd e.symm (hp j i hj hi h1)

/-- the slots at a call -/
noncomputable def slots0 (ds : List D) : Slots := fun i => match ds[i]? with | some d => .val d | none => .un

/-- what a def gives -/
noncomputable def retO : Rs → Option D
  | some (_, .ret d) => some d
  | _ => none
noncomputable def runFn (Φ : Str → List D → Option D) (fuel arity : Nat) (code : List S) (ds : List D) : Option D :=
  if ds.length = arity then retO (run Φ fuel code (slots0 ds)) else none
theorem runFn_k {Φ : Str → List D → Option D} {fuel arity : Nat} {code : List S} {ds : List D} {d : D} {G : Prop} (e : runFn Φ fuel arity code ds = some d) (k : ds.length = arity → ∀ σ', run Φ fuel code (slots0 ds) = some (σ', .ret d) → G) : G :=
  if_k e fun h e => by
    cases hr : run Φ fuel code (slots0 ds) with
    | none => rw [hr] at e; exact nope e
    | some r =>
      rw [hr] at e
      obtain ⟨σ', fl⟩ := r
      cases fl with
      | ret d' => exact k h σ' (by rw [hr, ← Option.some.inj (show some d' = some d from e)])
      | _ => exact nope e

/-- a def of the text, as the ground holds it -/
noncomputable def DefAt (mg : Str → Option Value) (hG : Heap) (f : Str) (params : Arguments) (body : List Stmt) (scope : Scope) : Prop :=
  ∃ a o pm cd doc, mg f = some (.ref a) ∧ a ≠ tabA ∧ hG.get? a = some o ∧ o.data = .func (Calls.docDef f params body scope pm (.ref cd) doc) ∧ cd ≠ tabA ∧ hG.CodeRec (.ref cd) f

structure Shape (ns ps : List Str) (scope : Scope) : Prop where
  nodup : ns.Nodup
  pre : ns.take ps.length = ps
  kinds : ∀ p ∈ ps, scope.names.lookup p = some .local ∨ scope.names.lookup p = some .cell
  kind : scope.kind = .function
  co : scope.isCoroutine = false
  gen : scope.isGenerator = false

end Mine
end

/-! S22 -/
section
open PySem PySem.W PyProof.Rows
set_option maxRecDepth 4000
set_option genInjectivity false
set_option genSizeOf false

namespace Mine

noncomputable def lineOf : Stmt → Nat
  | .Expr _ pos | .Return _ pos | .Assign _ _ pos | .AugAssign _ _ _ pos | .If _ _ _ pos | .While _ _ _ pos | .For _ _ _ _ pos | .Assert _ _ pos | .Break pos => pos.line
  | _ => 0

noncomputable def kindOk (sc : List (Str × NameKind)) (x : Str) : Bool := sc.lookup x == some .local || sc.lookup x == some .cell
/-- no comprehension, no tuple display -/
noncomputable def calm : Expr → Bool
  | .ListComp .. | .SetComp .. | .DictComp .. | .Tuple .. => false
  | _ => true
noncomputable def noComp : Expr → Bool
  | .ListComp .. | .SetComp .. | .DictComp .. => false
  | _ => true

section
variable {env : Env}
theorem swaps_calm {v : Expr} {t : Option Expr} {l : Nat} (h : noComp v = true) : swapsWith v t l env = pure false := by
  cases v with
  | ListComp => exact Bool.noConfusion h
  | SetComp => exact Bool.noConfusion h
  | DictComp => exact Bool.noConfusion h
  | _ => rfl
theorem swaps_cell {v : Expr} {x : Str} {p : Pos} {l : Nat} (h : env.kindOf x = some .cell) : swapsWith v (some (.Name x p)) l env = pure false := by
  have e : (env.kindOf x == some NameKind.local) = false := by rw [h]; rfl
  have q : ∀ (b c d : Bool), (b && (env.kindOf x == some NameKind.local) && c && d) = false := fun b c d => by rw [e]; cases b <;> rfl
  cases v with
  | ListComp => exact congrArg pure (q _ _ _)
  | SetComp => exact congrArg pure (q _ _ _)
  | DictComp => exact congrArg pure (q _ _ _)
  | _ => rfl
theorem calm_noComp {v : Expr} (h : calm v = true) : noComp v = true := by
  cases v with
  | ListComp => exact Bool.noConfusion h
  | SetComp => exact Bool.noConfusion h
  | DictComp => exact Bool.noConfusion h
  | _ => rfl
theorem swapsSole_calm {v t : Expr} {l : Nat} (h : noComp v = true) : swapsWithSole [t] v l env = pure false := swaps_calm h
theorem swapped_calm {ts : List Expr} {k : Nat} {p : Pos} {v : Expr} (h : calm v = true) : swappedStores [.Tuple ts k p] v env = pure none := by
  cases v with
  | Tuple => exact Bool.noConfusion h
  | _ => rfl

noncomputable def swpOk (sc : List (Str × NameKind)) (x y : Str) (p1 p2 : Pos) (a b : Expr) : Bool :=
  sc.lookup x == some .local && sc.lookup y == some .local && x != y && p1.line == p2.line && !([a, b].all (foldedForSure 8)) && !([a, b].all (constantsAlone 8))

theorem swapped_two {x y : Str} {p1 p2 : Pos} {k1 k2 : Nat} {q1 q2 : Pos} {a b : Expr} (hE : EnvOk env) (pa : plainE a = true) (pb : plainE b = true) (hx : env.kindOf x = some .local) (hy : env.kindOf y = some .local) (h : swpOk env.scope.names x y p1 p2 a b = true) :
    swappedStores [.Tuple [.Name x p1, .Name y p2] k1 q1] (.Tuple [a, b] k2 q2) env = pure (some [x, y]) := by
  have hq : ((env.kindOf x == some .local) = true ∧ (env.kindOf y == some .local) = true) ∧ x ≠ y ∧ (p2.line == p1.line) = true ∧ ¬ [a, b].all (foldedForSure 8) = true ∧ ¬ [a, b].all (constantsAlone 8) = true := by
    obtain ⟨h, h6⟩ := and_i h
    obtain ⟨h, h5⟩ := and_i h
    obtain ⟨h, h4⟩ := and_i h
    obtain ⟨h, h3⟩ := and_i h
    exact ⟨⟨by rw [hx]; rfl, by rw [hy]; rfl⟩, bne_iff_ne.mp h3, by rw [eq_of_beq h4]; exact beq_self_eq_true _, fun e => by rw [e] at h5; exact Bool.noConfusion h5, fun e => by rw [e] at h6; exact Bool.noConfusion h6⟩
  obtain ⟨⟨e1, e2⟩, h3, h4, h5, h6⟩ := hq
  have hk : (env.blockKind != .function) = false := by unfold Env.blockKind; rw [hE.1]; rfl
  have hst : ∀ e : Expr, plainE e = true → (match e with | .Starred _ _ => true | _ => false) = false := fun e h => by
    cases e with
    | Starred => exact Bool.noConfusion h
    | _ => rfl
  have hn : ([.Name x p1, .Name y p2] : List Expr).filterMap (fun e => match e with
    | .Name id pos => if (env.kindOf id == some .local && pos.line == p1.line) = true then some id else none
    | _ => none) = [x, y] := by
    simp only [List.filterMap_cons, List.filterMap_nil, e1, e2, h4, beq_self_eq_true, Bool.and_true, if_true]
  have hd : ([x, y].eraseDups.length != [x, y].length) = false := by
    have e3 : (y == x) = false := beq_false_of_ne (Ne.symm h3)
    simp [List.eraseDups, List.eraseDupsBy, List.eraseDupsBy.loop, e3]
  refine (if_neg ?_).trans ((if_neg ?_).trans ((if_neg ?_).trans ((if_neg h5).trans ((if_neg h6).trans (congrArg (fun l => pure (some l)) hn)))))
  · show ¬ (env.blockKind != .function) = true
    rw [hk]; exact Bool.false_ne_true
  · exact or3 (hst a pa) (hst b pb)
  · show ¬ (((([.Name x p1, .Name y p2] : List Expr).filterMap (fun e => match e with
    | .Name id pos => if (env.kindOf id == some .local && pos.line == p1.line) = true then some id else none
    | _ => none)).length != 2) || ((([.Name x p1, .Name y p2] : List Expr).filterMap (fun e => match e with
    | .Name id pos => if (env.kindOf id == some .local && pos.line == p1.line) = true then some id else none
    | _ => none)).eraseDups.length != (([.Name x p1, .Name y p2] : List Expr).filterMap (fun e => match e with
    | .Name id pos => if (env.kindOf id == some .local && pos.line == p1.line) = true then some id else none
    | _ => none)).length)) = true
    rw [hn, hd]; exact Bool.false_ne_true
end

namespace CC
variable (C : CC) (ns : List Str) (cx : Cx) (env : Env)
noncomputable abbrev So (st : Stmt) (c : S) : Prop := SO C.prog C.w C.mg C.mb C.hG C.A C.Φ (nmAt ns) ns.length cx env st c
noncomputable abbrev Ss (st : List Stmt) (c : List S) : Prop := SS C.prog C.w C.mg C.mb C.hG C.A C.Φ (nmAt ns) ns.length cx env st c
/-- the frame at hand -/
structure Fr (sc : List (Str × NameKind)) : Prop where
  O : Ok C.A (nmAt ns) ns.length env
  hs : env.scope.names = sc

section
variable {C ns cx env} {sc : List (Str × NameKind)} (F : C.Fr ns env sc)
include F
theorem Fr.e {a : Expr} {ca : E} (h : C.Cert ns sc a ca) : C.Sn ns env a ca := h.sn env F.O.hE F.O.hc F.hs
theorem Fr.kind {x : Str} (h : kindOk sc x = true) : env.kindOf x = some .local ∨ env.kindOf x = some .cell := by
  rw [← F.hs] at h
  exact (Bool.or_eq_true_iff.mp h).imp eq_of_beq eq_of_beq
theorem Fr.look {x : Str} {k : NameKind} (h : (sc.lookup x == some k) = true) : env.kindOf x = some k := by rw [← F.hs] at h; exact eq_of_beq h
end

theorem idx_lt {x : Str} {i : Nat} (h : ns.idxOf? x = some i) : i < ns.length := (idx_at h).1

section
variable {C ns cx env} {sc : List (Str × NameKind)} (F : C.Fr ns env sc) {x y z : Str} {i j l k k2 : Nat} {p p1 p2 p3 p4 p5 : Pos} {v a b : Expr} {cv ca cb : E} {s t : List Stmt} {cs ct : List S}
section
variable (hk : kindOk sc x = true) (hx : ns.idxOf? x = some i)
include F hx
theorem q_app (hd : (!(x == ("__debug__" : Str))) = true) (hl : (p1.endLine == p2.line) = true) (hv : C.Cert ns sc v cv) (hm : (y == ("append" : Str)) = true) : C.So ns cx env (.Expr (.Call (.Attribute (.Name x p) y p1) [v] [] p2) p3) (.app i cv) :=
  eq_of_beq hm ▸ so_app F.O (Bool.not_eq_true' _ |>.mp hd) (okE_plain hv.ok) hl (F.e hv) (nmAt_of hx)
theorem q_ext (hd : (!(x == ("__debug__" : Str))) = true) (hl : (p1.endLine == p2.line) = true) (hv : C.Cert ns sc v cv) (hm : (y == ("extend" : Str)) = true) : C.So ns cx env (.Expr (.Call (.Attribute (.Name x p) y p1) [v] [] p2) p3) (.ext i cv) :=
  eq_of_beq hm ▸ so_ext F.O (Bool.not_eq_true' _ |>.mp hd) (okE_plain hv.ok) hl (F.e hv) (nmAt_of hx)
theorem q_add (hd : (!(x == ("__debug__" : Str))) = true) (hv : C.Cert ns sc v cv) : C.So ns cx env (.Expr (.Call (.Name x p) [v] [] p1) p2) (.add i cv) :=
  so_add F.O (Bool.not_eq_true' _ |>.mp hd) (okE_plain hv.ok) (F.e hv) (nmAt_of hx)
include hk
theorem q_own0 : C.So ns cx env (.Assign [.Name x p] (.List [] p1) p2) (.own0 i) := so_own0 F.O (nmAt_of hx) (idx_lt _ hx) (F.kind hk)
theorem q_own1 (hv : C.Cert ns sc v cv) : C.So ns cx env (.Assign [.Name x p] (.List [v] p1) p2) (.own1 i cv) := so_own1 F.O (okE_plain hv.ok) (F.e hv) (nmAt_of hx) (idx_lt _ hx) (F.kind hk)
theorem q_bnd (hm : (z == ("append" : Str)) = true) (hd : (!(y == ("__debug__" : Str))) = true) (hy : ns.idxOf? y = some j) : C.So ns cx env (.Assign [.Name x p] (.Attribute (.Name y p1) z p2) p3) (.bnd i j) :=
  eq_of_beq hm ▸ so_bnd F.O (Bool.not_eq_true' _ |>.mp hd) (nmAt_of hx) (idx_lt _ hx) (F.kind hk) (nmAt_of hy)
theorem q_set (hv : C.Cert ns sc v cv) (hc : (noComp v || sc.lookup x == some .cell) = true) : C.So ns cx env (.Assign [.Name x p] v p1) (.set i cv) :=
  so_set F.O (F.e hv) (nmAt_of hx) (idx_lt _ hx) (F.kind hk) ((Bool.or_eq_true_iff.mp hc).elim swaps_calm fun h => swaps_cell (F.look h))
theorem q_aug {o : Operator} (hv : C.Cert ns sc v cv) : C.So ns cx env (.AugAssign (.Name x p) o v p1) (.aug o i cv) := so_aug F.O (F.e hv) (nmAt_of hx) (idx_lt _ hx) (F.kind hk)
theorem q_forl (hv : C.Cert ns sc v cv) (hs : C.Ss ns cx env s cs) : C.So ns cx env (.For (.Name x p) v s [] p1) (.forl i cv cs) := so_forl F.O (F.e hv) (nmAt_of hx) (idx_lt _ hx) (F.kind hk) (okE_fold hv.ok) hs
theorem q_forr (hr : (y == ("range" : Str)) = true) (hl : (sc.lookup y == some .globalImplicit) = true) (hv : C.Cert ns sc v cv) (hs : C.Ss ns cx env s cs) : C.So ns cx env (.For (.Name x p) (.Call (.Name y p2) [v] [] p3) s [] p1) (.forr i cv cs) :=
  so_forr F.O C.hb (eq_of_beq hr) (F.look hl) (okE_plain hv.ok) (F.e hv) (nmAt_of hx) (idx_lt _ hx) (F.kind hk) hs
variable (hk2 : kindOk sc y = true) (hy : ns.idxOf? y = some j)
include hk2 hy
theorem q_unp2 (hc : calm v = true) (hv : C.Cert ns sc v cv) : C.So ns cx env (.Assign [.Tuple [.Name x p, .Name y p1] k p2] v p3) (.unp2 i j cv) :=
  so_unp2 F.O (nmAt_of hx) (nmAt_of hy) (idx_lt _ hx) (idx_lt _ hy) (F.kind hk) (F.kind hk2) (F.e hv) (swapsSole_calm (calm_noComp hc)) (swapped_calm hc)
theorem q_unp3 (hk3 : kindOk sc z = true) (hz : ns.idxOf? z = some l) (hc : calm v = true) (hv : C.Cert ns sc v cv) : C.So ns cx env (.Assign [.Tuple [.Name x p, .Name y p1, .Name z p4] k p2] v p3) (.unp3 i j l cv) :=
  so_unp3 F.O (nmAt_of hx) (nmAt_of hy) (nmAt_of hz) (idx_lt _ hx) (idx_lt _ hy) (idx_lt _ hz) (F.kind hk) (F.kind hk2) (F.kind hk3) (F.e hv) (swapsSole_calm (calm_noComp hc)) (swapped_calm hc)
end
theorem swp_kinds {p1 p2 : Pos} (h : swpOk sc x y p1 p2 a b = true) : (sc.lookup x == some .local) = true ∧ (sc.lookup y == some .local) = true :=
  and_i (and_i (and_i (and_i (and_i h).1).1).1).1
include F
theorem q_swp (hx : ns.idxOf? x = some i) (hy : ns.idxOf? y = some j) (h : swpOk sc x y p p1 a b = true) (ha : C.Cert ns sc a ca) (hb : C.Cert ns sc b cb) : C.So ns cx env (.Assign [.Tuple [.Name x p, .Name y p1] k p2] (.Tuple [a, b] k2 p3) p4) (.swp i j ca cb) :=
  have k1 := F.look (swp_kinds h).1
  have k2 := F.look (swp_kinds h).2
  so_swp F.O (nmAt_of hx) (nmAt_of hy) (idx_lt _ hx) (idx_lt _ hy) (.inl k1) (.inl k2) (okE_plain ha.ok) (okE_plain hb.ok) (F.e ha) (F.e hb) (swapped_two F.O.hE (okE_plain ha.ok) (okE_plain hb.ok) k1 k2 (F.hs.symm ▸ h))
theorem q_ife (hv : C.Cert ns sc v cv) (hs : C.Ss ns cx env s cs) (ht : C.Ss ns cx env t ct) : C.So ns cx env (.If v s t p) (.ife cv cs ct) := so_ife (F.e hv) hs ht
theorem q_whl (hv : C.Cert ns sc v cv) (hs : C.Ss ns cx env s cs) : C.So ns cx env (.While v s [] p) (.whl cv cs) := so_whl (F.e hv) hs
theorem q_ret (hv : C.Cert ns sc v cv) : C.So ns cx env (.Return (some v) p) (.ret cv) := so_ret (F.e hv)
theorem q_asr {m : Option Expr} (hv : C.Cert ns sc v cv) : C.So ns cx env (.Assert v m p) (.asr cv) := so_asr (F.e hv)
end

section
variable (ow : List Str) (fz : List (Nat × Nat)) {sc : List (Str × NameKind)} {cx} {env} (F : C.Fr ns env sc) (rec : (l : List Stmt) → Option { c : List S // C.Ss ns cx env l c }) (n : Nat)
noncomputable def sName (x : Str) (p p1 : Pos) (hk : kindOk sc x = true) (i : Nat) (hx : ns.idxOf? x = some i) (v : Expr) : Option { c : S // C.So ns cx env (.Assign [.Name x p] v p1) c } :=
  gate (noComp v || sc.lookup x == some .cell) fun hc => m1 (C.cE ns n sc v) _ fun z => q_set F hk hx z hc
noncomputable def sTo (x : Str) (p p1 : Pos) (hk : kindOk sc x = true) (i : Nat) (hx : ns.idxOf? x = some i) : (v : Expr) → Option { c : S // C.So ns cx env (.Assign [.Name x p] v p1) c }
  | .List [] p2 => if ow.contains x then some ⟨_, q_own0 F hk hx⟩ else sName C ns F n x p p1 hk i hx (.List [] p2)
  | .List [a] p2 => if ow.contains x then m1 (C.cE ns n sc a) _ fun z => q_own1 F hk hx z else sName C ns F n x p p1 hk i hx (.List [a] p2)
  | .Attribute (.Name y _) m _ => gate (m == ("append" : Str)) fun hm => gate (!(y == ("__debug__" : Str))) fun hd => ix (ns.idxOf? y) fun _ hy => some ⟨_, q_bnd F hk hx hm hd hy⟩
  | v => sName C ns F n x p p1 hk i hx v
noncomputable def sUnp2 (x y : Str) (p p1 p2 p3 : Pos) (k : Nat) (i j : Nat) (hx : ns.idxOf? x = some i) (hy : ns.idxOf? y = some j) : (v : Expr) → Option { c : S // C.So ns cx env (.Assign [.Tuple [.Name x p, .Name y p1] k p2] v p3) c }
  | .Tuple [a, b] _ _ => gate (swpOk sc x y p p1 a b) fun h => m2 (C.cE ns n sc a) (C.cE ns n sc b) _ fun z t => q_swp F hx hy h z t
  | v => gate (calm v) fun hc => gate (kindOk sc x) fun k1 => gate (kindOk sc y) fun k2 => m1 (C.cE ns n sc v) _ fun z => q_unp2 F k1 hx k2 hy hc z
noncomputable def sAssign (v : Expr) (p3 : Pos) : (t : List Expr) → Option { c : S // C.So ns cx env (.Assign t v p3) c }
  | [.Name x p] => gate (kindOk sc x) fun hk => ix (ns.idxOf? x) fun i hx => sTo C ns ow F n x p p3 hk i hx v
  | [.Tuple [.Name x p, .Name y p1] k p2] => ix (ns.idxOf? x) fun i hx => ix (ns.idxOf? y) fun j hy => sUnp2 C ns F n x y p p1 p2 p3 k i j hx hy v
  | [.Tuple [.Name x _, .Name y _, .Name z _] _ _] => gate (calm v) fun hc => gate (kindOk sc x) fun k1 => gate (kindOk sc y) fun k2 => gate (kindOk sc z) fun k3 => ix (ns.idxOf? x) fun i hx => ix (ns.idxOf? y) fun j hy => ix (ns.idxOf? z) fun l hz =>
    m1 (C.cE ns n sc v) _ fun t => q_unp3 F k1 hx k2 hy k3 hz hc t
  | _ => none
noncomputable def sExpr (p3 : Pos) : (v : Expr) → Option { c : S // C.So ns cx env (.Expr v p3) c }
  | .Call (.Attribute (.Name x _) m p1) [v] [] p2 => gate (!(x == ("__debug__" : Str))) fun hd => gate (p1.endLine == p2.line) fun hl => ix (ns.idxOf? x) fun i hx => match h : m == ("append" : Str) with
    | true => m1 (C.cE ns n sc v) _ fun z => q_app F hx hd hl z h
    | false => gate (m == ("extend" : Str)) fun h => m1 (C.cE ns n sc v) _ fun z => q_ext F hx hd hl z h
  | .Call (.Name x _) [v] [] _ => gate (!(x == ("__debug__" : Str))) fun hd => ix (ns.idxOf? x) fun i hx => m1 (C.cE ns n sc v) _ fun z => q_add F hx hd z
  | _ => none
noncomputable def sFor (x : Str) (p p1 : Pos) (b : List Stmt) (hk : kindOk sc x = true) (i : Nat) (hx : ns.idxOf? x = some i) : (v : Expr) → Option { c : S // C.So ns cx env (.For (.Name x p) v b [] p1) c }
  | .Call (.Name r p2) [m] [] p3 => match h : r == ("range" : Str) with
    | true => gate (sc.lookup r == some .globalImplicit) fun hl => m2 (C.cE ns n sc m) (rec b) _ fun y z => q_forr F hk hx h hl y z
    | false => m2 (C.cE ns n sc (.Call (.Name r p2) [m] [] p3)) (rec b) _ fun y z => q_forl F hk hx y z
  | v => m2 (C.cE ns n sc v) (rec b) _ fun y z => q_forl F hk hx y z
noncomputable def cSt : (st : Stmt) → Option { c : S // C.So ns cx env st c }
  | .Assign t v p => sAssign C ns ow F n v p t
  | .AugAssign (.Name x _) _ v _ => gate (kindOk sc x) fun hk => ix (ns.idxOf? x) fun _ hx => m1 (C.cE ns n sc v) _ fun z => q_aug F hk hx z
  | .Expr v p => sExpr C ns F n p v
  | .If t a b _ => m3 (C.cE ns n sc t) (rec a) (rec b) _ fun x y z => q_ife F x y z
  | .While t a [] _ => m2 (C.cE ns n sc t) (rec a) _ fun x y => q_whl F x y
  | .For (.Name x p) v b [] p1 => gate (kindOk sc x) fun hk => ix (ns.idxOf? x) fun i hx => sFor C ns F rec n x p p1 b hk i hx v
  | .Return (some v) _ => m1 (C.cE ns n sc v) _ fun z => q_ret F z
  | .Break _ => some ⟨.brk, so_brk⟩
  | .Assert t _ _ => m1 (C.cE ns n sc t) _ fun z => q_asr F z
  | _ => none
noncomputable def frzAt (l : Nat) : List S := (fz.filter fun p => p.1 == l).map fun p => S.frz p.2
theorem ss_frzAt {l : List Stmt} {cs : List S} {line : Nat} (h : C.Ss ns cx env l cs) : C.Ss ns cx env l (frzAt fz line ++ cs) := by
  unfold frzAt
  generalize fz.filter _ = q
  induction q with
  | nil => exact h
  | cons p r ih => exact ss_frz ih
noncomputable def cS : Nat → (l : List Stmt) → Option { c : List S // C.Ss ns cx env l c }
  | 0 => fun _ => none
  | n + 1 => fun l => match l with
    | [] => some ⟨[], ss_nil⟩
    | st :: rest => m2 (cSt C ns ow F (cS n) n st) (cS n rest) (fun c cs => frzAt fz (lineOf st) ++ c :: cs) fun y z => ss_frzAt C ns fz (ss_cons y z)
end
end CC
end Mine
end

/-! S23 -/
section
open PySem PySem.W PyProof.Rows
set_option maxRecDepth 100000

namespace Mine
open Builtin

section
variable {prog : Program} {w : World} {A : Around} {E : Value → Shared → Prop} {s : Shared}

theorem listiter_special {it l : Addr} {i : Nat} {items} {x : Value} {Q : Option Value → Shared → Prop} (hit : s.heap.IsListIter it l i) (hl : s.heap.IsList l items) (hx : items[i]? = some x)
    (hQ : ∀ h', h'.IsListIter it l (i + 1) → Heap.SameBut it s.heap h' → Q (some x) { s with heap := h' }) :
    wpAny (model prog w) A (callSpecial? (.ref it) (PySem.Str.ofString "__next__")) Q E s := by
  obtain ⟨o, ho, hc, hd⟩ := id hit
  obtain ⟨ol, hol, _, nl, hdl⟩ := hl
  refine wpAny_callSpecial?_slot (name := PySem.Str.ofString "__next__") hit.typeIs slot_listiter_next
    (wpAny_call_entry slot_listiter_next hit.typeIs entry_listiter_next ?_ (args_listiter_next _))
  show wpAny _ _ (field (.ref it) 0 >>= _) _ _ s
  refine wpAny_bind (wpAny_field ho hd (x := .ref l) rfl ?_)
  show wpAny _ _ (if (Value.ref l == Value.none) = true then _ else _) _ _ s
  rw [if_neg (show ¬ ((Value.ref l == Value.none) = true) from Bool.false_ne_true)]
  show wpAny _ _ (field (.ref it) 1 >>= _) _ _ s
  refine wpAny_bind (wpAny_field ho hd (x := .int i 0) rfl ?_)
  show wpAny _ _ (seqItems? (.ref l) >>= _) _ _ s
  refine wpAny_bind (wpAny_seqItems hol hdl ?_)
  simp only [Int.toNat_natCast, hx]
  refine wpAny_bind (wpAny_setField ho hd (by simp) (wpAny_pure ⟨x, rfl, hQ _ ?_ (Heap.SameBut.update ..)⟩))
  exact ⟨_, Heap.get?_update_self _ ho (Obj.isFreed_of_fields (Obj.data_mapFields hd _)), (Obj.cls_mapFields ..).trans hc, by
    rw [Obj.data_mapFields hd]; simp [rawInt]⟩

theorem call_next {it l : Addr} {i : Nat} {items} {x : Value} {Q : Value → Shared → Prop} (hit : s.heap.IsListIter it l i) (hl : s.heap.IsList l items) (hx : items[i]? = some x)
    (hQ : ∀ h', h'.IsListIter it l (i + 1) → Heap.SameBut it s.heap h' → Q x { s with heap := h' }) : wpAny (model prog w) A (call (.builtin "next") [.ref it]) Q E s := by
  refine Calls.call_function_entry (by decide +kernel) (by decide +kernel) kdk_entry_next (kdk_args_next _) ?_
  unfold Builtin.«next»
  refine wpAny_bind (m := someArgs "next" 1 2 _) (wpAny_of_eq (a := [Value.ref it]) (by first | rfl | kernel_rfl) ?_)
  dsimp only
  refine wpAny_bind (wpAny_specialOf (name := PySem.Str.ofString "__next__") hit.typeIs slot_listiter_next.lookup ?_)
  refine wpAny_ite_split (fun hab => absurd hab (by decide)) (fun _ => ?_)
  refine wpAny_bind (listiter_special hit hl hx fun h' hit' hs => ?_)
  exact wpAny_pure ⟨_, rfl, hQ h' hit' hs⟩

theorem call_iter {l : Addr} {items} {Q : Value → Shared → Prop} (hl : s.heap.IsList l items)
    (hQ : Q (.ref s.heap.objs.size) { s with heap := s.heap.push { cls := .type "list_iterator", data := .fields #[.ref l, .int 0 0] } }) : wpAny (model prog w) A (call (.builtin "iter") [.ref l]) Q E s := by
  refine Calls.call_function_entry (by decide +kernel) (by decide +kernel) kdk_entry_iter (kdk_args_iter _) ?_
  unfold Builtin.«iter»
  refine wpAny_bind (m := someArgs "iter" 1 2 _) (wpAny_of_eq (a := [Value.ref l]) (by first | rfl | kernel_rfl) ?_)
  show wpAny _ _ (pyIter (.ref l) >>= _) _ _ _
  exact wpAny_bind (wpAny_pyIter_list hl (wpAny_pure ⟨_, rfl, hQ⟩))

theorem Walks_from (hh : A.handled = none) (I ax : Addr) (hne : ax ≠ I) (items : Array Value) (k : Nat) (hk : k ≤ items.size) :
    Walks prog w A I [I, ax] [I] (items.size - k) (fun i v => items[k + i]? = some v) (fun i h => h.IsListIter I ax (k + i) ∧ h.IsList ax items) := by
  have W := Walks.list (prog := prog) (w := w) hh I ax hne items
  refine ⟨W.sub, fun i h h' st => W.frame (k + i) h h' st, fun i s Q E hi st hQ => W.item (k + i) s Q E (by omega) st fun v h' tk hv st' hk' => hQ v h' tk hv st' hk', fun s Q E st hQ => W.done s Q E ?_ hQ, fun i s Q E st hQ => W.self (k + i) s Q E st hQ⟩
  have e : k + (items.size - k) = items.size := by omega
  rw [e] at st
  exact st

theorem li_no_len : typeLookup (.type "list_iterator") "__len__" = pure none := by rw [typeLookup_type, builtinLookup_eq_fast]; kernel_rfl
theorem li_hint : typeLookup (.type "list_iterator") "__length_hint__" = pure (some (.builtin "list_iterator.__length_hint__")) := by rw [typeLookup_type, builtinLookup_eq_fast]; kernel_rfl

theorem hint_listiter {it l : Addr} {i : Nat} {Q : Bool → Shared → Prop} (hit : s.heap.IsListIter it l i) (hQ : Q false s) : wpAny (model prog w) A (Builtin.List.listLengthHint (.ref it)) Q E s := by
  unfold Builtin.List.listLengthHint
  refine wpAny_bind (wpAny_specialOf hit.typeIs li_no_len ?_)
  show wpAny _ A (specialOf (Value.ref it) (PySem.Str.ofString "__length_hint__") >>= _) _ _ _
  refine wpAny_bind (wpAny_specialOf hit.typeIs li_hint ?_)
  have f1 : isSubtype (.type "list_iterator") (.type "list_iterator") = pure true := by rw [isSubtype_type]; kernel_rfl
  have hT := hit.typeIs
  have e0 : splitId "list_iterator.__length_hint__" = some ("list_iterator", "__length_hint__") := by decide +kernel
  simp only [e0]
  refine wpAny_bind (wpAny_isInstance hT f1 ?_)
  refine wpAny_ite_split (fun hab => absurd hab (by decide)) (fun _ => ?_)
  refine wpAny_ite_split (fun _ => ?_) (fun hab => absurd (by decide +kernel) hab)
  exact wpAny_ite_split (fun hab => absurd hab (by decide +kernel)) (fun _ => wpAny_pure hQ)

theorem extend_listiter {R : Result → Shared → Prop} {I ax : Addr} {items : Array Value} {k : Nat} (hh : A.handled = none) (hit : s.heap.IsListIter I ax k) (hl : s.heap.IsList ax items) (hk : k ≤ items.size) (hsz : items.size - k ≤ sizeLine) (S : Addr) (hSI : S ≠ I) (hSx : S ≠ ax) (hne : ax ≠ I)
    (res : Value) (c₀ : Nat) (hS : s.heap.get? S = some { cls := .type "list", data := .seq #[] c₀ })
    (hR : ∀ s' acc' c', Moved [S, I] (fun a b => b = a) s s' → s'.heap.get? S = some { cls := .type "list", dict := none, data := .seq acc' c', slots := #[] } → ItemsOf (fun i v => items[k + i]? = some v) acc' (items.size - k) → R (.ok (.ret res)) s') :
    wpAny (model prog w) A.in1 (Builtin.List.listExtendWith (.ref S) (.ref I) res)
      (fun fin s' => match fin with | .done f => R (.ok f) s' | .again c' => c'.quiet = true ∧ codeAny (model prog w) A c' R s') (fun e s' => R (.error e) s') s := by
  have hSf : S ∉ [I, ax] := fun hm => by
    rcases List.mem_cons.mp hm with e | hm
    · exact hSI e
    · rcases List.mem_cons.mp hm with e | hm
      · exact hSx e
      · cases hm
  have W := (Walks_from (prog := prog) (w := w) (A := A.in1) hh I ax hne items k hk).toS
  unfold Builtin.List.listExtendWith
  refine wpAny_bind (wpAny_typeOf hit.typeIs ?_)
  have h1 : Builtin.List.listSameRef (.ref S) (.ref I) = false := by simp [Builtin.List.listSameRef, hSI]
  have h2 : (Value.type "list_iterator" == Value.type "list") = false := by decide
  have h3 : (Value.type "list_iterator" == Value.type "tuple") = false := by decide
  simp only [h1, h2, h3, Bool.or_false, Bool.false_eq_true, if_false]
  refine wpAny_bind (wpAny_pyIter_listiter hit ?_)
  refine wpAny_bind (wpAny_holding (hint_listiter hit ?_))
  refine wpAny_ite_split (fun hab => absurd hab (by decide)) (fun _ => ?_)
  exact wpAny_pure ⟨plainId_quiet F.plain_extend_loop _, codeAny_extend_loopS W hsz S hSf res (items.size - k) 0 s #[] c₀ rfl (Nat.zero_le _) ⟨hit, hl⟩ hS (ItemsOf.nil _) fun s' acc' c' hm hS' hacc => hR s' acc' c' hm hS' hacc⟩

theorem call_list_iter {Q : Value → Shared → Prop} {I ax : Addr} {items : Array Value} {k : Nat} (hh : A.handled = none) (hit : s.heap.IsListIter I ax k) (hl : s.heap.IsList ax items) (hk : k ≤ items.size) (hsz : items.size - k ≤ sizeLine) (hne : ax ≠ I)
    (hQ : ∀ h' tk acc' c', (∀ b o, b ≠ I → s.heap.get? b = some o → h'.get? b = some o) → s.toks ≤ tk → h'.get? s.heap.objs.size = some { cls := .type "list", dict := none, data := .seq acc' c', slots := #[] } → acc'.size = items.size - k →
      Q (.ref s.heap.objs.size) { s with heap := h', toks := tk }) :
    wpAny (model prog w) A (call (.type "list") [.ref I]) Q E s := by
  refine callType_codes (Q₁ := fun obj s₁ => obj = .ref s.heap.objs.size ∧ s₁ = { s with heap := s.heap.push { cls := .type "list", data := .seq #[] } }) F.called_list (F.typeCall_list_1 _) F.entry_list_init
    (code_list_new _ ⟨rfl, rfl⟩) fun obj s₁ h₁ => ?_
  obtain ⟨rfl, rfl⟩ := h₁
  have hS : (s.heap.push { cls := .type "list", data := .seq #[] }).get? s.heap.objs.size = some { cls := .type "list", data := .seq #[] } := Heap.get?_push_size _ rfl
  have hIlt : I < s.heap.objs.size := let ⟨o, e, _⟩ := hit; Heap.lt_size e
  have hxlt : ax < s.heap.objs.size := let ⟨o, e, _⟩ := hl; Heap.lt_size e
  refine ⟨⟨_, hS, rfl⟩, F.args_list_init_2 _ _, ?_⟩
  show wpAny _ A.in1.in1 (do let old ← Builtin.List.listItems (.ref s.heap.objs.size); Builtin.List.listUpdate (.ref s.heap.objs.size) (fun _ => #[]); letGo old.toList.reverse; Builtin.List.listExtendWith (.ref s.heap.objs.size) (.ref I) .none) _ _ _
  refine wpAny_bind ?_
  unfold Builtin.List.listItems
  refine wpAny_bind (wpAny_seqItems hS rfl (wpAny_pure ?_))
  show wpAny _ A.in1.in1 (updateSeq s.heap.objs.size (fun _ => #[]) >>= fun _ => letGo (#[] : Array Value).toList.reverse >>= fun _ => Builtin.List.listExtendWith (.ref s.heap.objs.size) (.ref I) .none) _ _ _
  refine wpAny_bind (wpAny_updateSeq hS rfl ?_)
  have hS₂ := Heap.get?_update_self (Obj.mapSeq (fun _ => (#[] : Array Value))) hS rfl
  have oth : ∀ b o, b ≠ s.heap.objs.size → (s.heap.push { cls := .type "list", data := .seq #[] }).get? b = some o → ((s.heap.push { cls := .type "list", data := .seq #[] }).update s.heap.objs.size (Obj.mapSeq (fun _ => (#[] : Array Value)))).get? b = some o :=
    fun b o hb e => (Heap.get?_update_other _ _ (Ne.symm hb)).trans e
  have old2 : ∀ b o, s.heap.get? b = some o → ((s.heap.push { cls := .type "list", data := .seq #[] }).update s.heap.objs.size (Obj.mapSeq (fun _ => (#[] : Array Value)))).get? b = some o :=
    fun b o e => oth b o (Nat.ne_of_lt (Heap.lt_size e)) (Heap.get?_push_of_some _ e)
  refine wpAny_bind (wpAny_letGo ?_)
  refine extend_listiter (A := A.in1) hh (hit.at (old2 I)) (hl.at (old2 ax)) hk hsz _ (Nat.ne_of_gt hIlt) (Nat.ne_of_gt hxlt) hne .none _ hS₂ fun s' acc' c' hm hS' hacc => ⟨rfl, ?_⟩
  have e : s' = { s with heap := s'.heap, toks := s'.toks } := by
    obtain ⟨hp', gg, dd, tt, oo⟩ := s'
    have h1 := hm.gens
    have h2 := hm.drawn
    have h3 := hm.os
    simp only at h1 h2 h3
    subst h1; subst h2; subst h3
    rfl
  rw [e]
  refine hQ _ _ acc' c' (fun b o hb eo => hm.heap b o (fun hmem => ?_) (old2 b o eo)) hm.toks hS' hacc.1
  rcases List.mem_cons.mp hmem with h | h
  · exact absurd (Heap.lt_size eo) (by rw [h]; exact Nat.lt_irrefl _)
  · rcases List.mem_cons.mp h with h | h
    · exact hb h
    · cases h

end
end Mine
end

/-! S24 -/
section
open PySem PySem.W PyProof.Rows
set_option maxRecDepth 4000

namespace Mine

/-- the loop of _parse_varint -/
noncomputable def pvB (y z : Option (D × List D)) : Option Bool → Option (D × List D)
  | some true => y
  | some false => z
  | none => none
noncomputable def pvO (k : D → Option (D × List D)) : Option D → Option (D × List D)
  | some d => k d
  | none => none
noncomputable def pvT (b : D) (y z : Option (D × List D)) : Option (D × List D) := pvO (fun t => pvB y z (truD t)) (binD .BitAnd b (.int 64))
noncomputable def pvS (v b : D) (k : D → Option (D × List D)) : Option (D × List D) := pvO (fun v1 => pvO (fun c => pvO k (inpD .BitOr v1 c)) (binD .BitAnd b (.int 63))) (inpD .LShift v (.int 6))
noncomputable def pvL (b v : D) : List D → Option (D × List D)
  | [] => pvT b none (some (v, []))
  | b' :: r => pvT b (pvS v b' fun v2 => pvL b' v2 r) (some (v, b' :: r))
noncomputable def pv : List D → Option (D × List D)
  | b :: r => pvO (fun v => pvL b v r) (binD .BitAnd b (.int 63))
  | [] => none
section
variable {G : Prop} {o : Option D} {q : D × List D}
theorem pvO_k {k : D → Option (D × List D)} (e : pvO k o = some q) (h : ∀ d, o = some d → k d = some q → G) : G := by
  cases o with
  | none => exact nope e
  | some d => exact h d rfl e
theorem pvT_k {b : D} {y z : Option (D × List D)} (e : pvT b y z = some q) (h : ∀ t c, binD .BitAnd b (.int 64) = some t → truD t = some c → (bif c then y else z) = some q → G) : G :=
  pvO_k e fun t h1 e => by
    cases h2 : truD t with
    | none => exact nope ((congrArg (pvB y z) h2).symm.trans e)
    | some c =>
      replace e := (congrArg (pvB y z) h2).symm.trans e
      cases c with
      | true => exact h t true h1 h2 e
      | false => exact h t false h1 h2 e
end
theorem put_ptr {σ : Slots} {x y : Nat} {I : Addr} {v : SV} (h : σ y = .ptr I) (hy : y ≠ x) : put σ x v y = .ptr I := (if_neg hy).trans (by rw [h])

section
variable {prog : Program} {w : World} {A : Around} {mg mb : Str → Option Value} {hG : Heap} {env : Env} {cx : Cx} {nm : Nat → Str} {N : Nat} {Φ : Str → List D → Option D}

/-- the caller's iterator, and what it stands on -/
structure It (h : Heap) (X : Addr → Prop) (I ax : Addr) (vs : Array Value) (l : List D) : Prop where
  it : ∃ i, i ≤ vs.size ∧ h.IsListIter I ax i ∧ DenL h X l (vs.toList.drop i)
  li : h.IsList ax vs
  ne : ax ≠ I
  nx : ¬ X ax
  sc : ∀ d ∈ l, scal d = true

/-- what stays, the iterator left out -/
noncomputable def Stay (K X : Addr → Prop) (I : Addr) (s : Shared) (X' : Addr → Prop) (s' : Shared) : Prop :=
  (∀ b o, b ≠ I → s.heap.get? b = some o → (¬ X b → s'.heap.get? b = some o ∧ ¬ X' b) ∧ (K b → s'.heap.get? b = some o)) ∧ s.toks ≤ s'.toks

theorem Stay.trans {K X I s X' s' X'' s''} (a : Stay K X I s X' s') (b : Stay K X' I s' X'' s'') : Stay K X I s X'' s'' :=
  ⟨fun x o hx e => ⟨fun n => have z := (a.1 x o hx e).1 n; (b.1 x o hx z.1).1 z.2, fun k => (b.1 x o hx ((a.1 x o hx e).2 k)).2 k⟩, Nat.le_trans a.2 b.2⟩
theorem Stay.of {K X I s X' s'} (r : Rel K X s X' s') : Stay K X I s X' s' := ⟨fun b o _ e => ⟨fun n => r.1 b o e n, fun k => r.2.1 b o k e⟩, r.2.2⟩
theorem Stay.refl {K X I s} : Stay K X I s X s := .of Rel.refl

theorem It.rel {K X X' I ax vs l s s'} (x : It s.heap X I ax vs l) (hK : K I) (r : Rel K X s X' s') : It s'.heap X' I ax vs l := by
  obtain ⟨⟨i, le, hi, q⟩, li, ne, nx, sc⟩ := x
  obtain ⟨o, ho, ho2⟩ := hi
  obtain ⟨o', ho', ho2'⟩ := li
  exact ⟨⟨i, le, ⟨o, r.2.1 I o hK ho, ho2⟩, q.scal sc⟩, ⟨o', (r.1 ax o' ho' nx).1, ho2'⟩, ne, (r.1 ax o' ho' nx).2, sc⟩

theorem next_stmt {K X α σ s} {x : Nat} {nb ni nn : Str} {p p1 p2 cp pos : Pos} {I ax : Addr} {vs : Array Value} {d : D} {r : List D} (O : Ok A nm N env) (hb : Built mg mb) (hkn : env.kindOf nn = some .globalImplicit) (hnn : nn = "next")
    (hdi : (ni == ("__debug__" : Str)) = false) (hx : nm x = nb) (hxN : x < N) (hk : env.kindOf nb = some .local ∨ env.kindOf nb = some .cell)
    {y : Nat} (hy : nm y = ni) (hσ : σ y = .ptr I) (J : SInv mg mb hG env nm N cx K X α σ s) (hK : K I) (hg : ¬ Gl hG I) (it : It s.heap X I ax vs (d :: r)) :
    wpAny (model prog w) A (exec (.Assign [.Name nb p] (.Call (.Name nn p1) [.Name ni p2] [] cp) pos) env)
      (fun f s' => f = .next ∧ SInv mg mb hG env nm N cx K X α (put σ x (.val d)) s' ∧ Stay K X I s X s' ∧ It s'.heap X I ax vs r) (fun _ _ => False) s := by
  subst hnn
  obtain ⟨⟨i, le, hi, q⟩, li, ne, nx, sc⟩ := it
  have lk : Look env s.heap ni (.ref I) := by
    have := J.e.slots y
    rw [hσ] at this
    rw [← hy]; exact this
  refine wpAny_Assign_Name (Call_ (eval_built O.hE (by decide +kernel) hkn J.e.bas hb.next ?_) rfl) rfl
  refine callWith_builtin1 (wpAny_items_cons (eval_look O.hE hdi lk (wpAny_items_nil ?_)) (starEach_plain rfl)) (starEach_plain rfl) rfl
  obtain ⟨v, rv, hv, dv, qr⟩ := q.cons_inv
  have hvi : vs[i]? = some v := by
    have : (vs.toList.drop i)[0]? = some v := by rw [hv]; rfl
    rw [List.getElem?_drop] at this
    simpa using this
  have hdrop : vs.toList.drop (i + 1) = rv := by
    have := congrArg (List.drop 1) hv
    rw [List.drop_drop] at this
    simpa [Nat.add_comm] using this
  refine call_next hi li hvi fun h' hi' hs' => ?_
  have J1 : SInv mg mb hG env nm N cx K X α σ { s with heap := h', toks := s.toks } :=
    J.tick hK hg (fun b o hb e => hs'.extBut b o hb e) (Nat.le_refl _) (fun _ h => h) (fun _ h _ => h) (fun _ => (let ⟨o, e, _⟩ := hi'; ⟨o, e⟩)) (fun b h => ⟨h, J.sub b h⟩) (fun _ h _ => h)
  have st : Stay K X I s X { s with heap := h', toks := s.toks } := ⟨fun b o hb e => ⟨fun n => ⟨hs'.extBut b o hb e, n⟩, fun _ => hs'.extBut b o hb e⟩, Nat.le_refl _⟩
  have it1 : It h' X I ax vs r := ⟨⟨i + 1, (Array.getElem?_eq_some_iff.mp hvi).1, hi', by rw [hdrop]; exact qr.scal fun d hd => sc d (.tail _ hd)⟩, li.extBut hs'.extBut ne, ne, nx, fun d hd => sc d (.tail _ hd)⟩
  refine store_val hx hxN (fun z hz h => O.inj z x hz hxN (h.trans hx.symm)) O.hE J1 hk (dv.scal (sc d (.head _))) fun s' J' r' => ?_
  exact ⟨rfl, J', st.trans (.of r'), it1.rel hK r'⟩



variable (prog w mg mb hG A env cx nm N) in
/-- `b = next(iterator)` -/
noncomputable def NextOk (st : Stmt) : Prop := ∀ (K X : Addr → Prop) (α : Nat → Addr) (σ : Slots) (s : Shared) (I ax : Addr) (vs : Array Value) (d : D) (r : List D), σ 0 = .ptr I → SInv mg mb hG env nm N cx K X α σ s → K I → ¬ Gl hG I → It s.heap X I ax vs (d :: r) →
  wpAny (model prog w) A (exec st env) (fun f s' => f = .next ∧ SInv mg mb hG env nm N cx K X α (put σ 1 (.val d)) s' ∧ Stay K X I s X s' ∧ It s'.heap X I ax vs r) (fun _ _ => False) s

/-- between the turns -/
inductive PvInv (mg mb : Str → Option Value) (hG : Heap) (env : Env) (nm : Nat → Str) (N : Nat) (cx : Cx) (K X : Addr → Prop) (I ax : Addr) (vs : Array Value) (s : Shared) (fi : D × List D) (m : Nat) (s₁ : Shared) : Prop
  | mk (X₁ : Addr → Prop) (α₁ : Nat → Addr) (σ₁ : Slots) (b v : D) (l : List D) (hm : m = l.length) (J : SInv mg mb hG env nm N cx K X₁ α₁ σ₁ s₁) (st : Stay K X I s X₁ s₁) (it : It s₁.heap X₁ I ax vs l) (e0 : σ₁ 0 = .ptr I) (e1 : σ₁ 1 = .val b) (e2 : σ₁ 2 = .val v) (hp : pvL b v l = some fi)
/-- the loop's end -/
inductive PvEnd (mg mb : Str → Option Value) (hG : Heap) (env : Env) (nm : Nat → Str) (N : Nat) (cx : Cx) (K X : Addr → Prop) (I ax : Addr) (vs : Array Value) (s : Shared) (fi : D × List D) (f : Flow) (s' : Shared) : Prop
  | mk (hf : f = .next) (X' : Addr → Prop) (α' : Nat → Addr) (σ' : Slots) (J : SInv mg mb hG env nm N cx K X' α' σ' s') (st : Stay K X I s X' s') (it : It s'.heap X' I ax vs fi.2) (e : σ' 2 = .val fi.1)

section
variable {K X : Addr → Prop} {sn sn2 sb sa1 sa2 : Stmt} {te re : Expr} {wp rp : Pos} {I ax : Addr} {vs : Array Value} {s : Shared}
    (hn : NextOk prog w A mg mb hG env cx nm N sn) (ht : Snd prog w mg mb hG A Φ nm env te (.bin .BitAnd (.var 1) (.int 64))) (h1 : SO prog w mg mb hG A Φ nm N cx env sa1 (.aug .LShift 2 (.int 6)))
    (h2 : SO prog w mg mb hG A Φ nm N cx env sa2 (.aug .BitOr 2 (.bin .BitAnd (.var 1) (.int 63)))) (hK : K I) (hg : ¬ Gl hG I)
include hn ht h1 h2 hK hg
theorem pv_loop {fi : D × List D} {X₁ α₁ σ₁ s₁ b v l} (J : SInv mg mb hG env nm N cx K X₁ α₁ σ₁ s₁) (st : Stay K X I s X₁ s₁) (it : It s₁.heap X₁ I ax vs l) (e0 : σ₁ 0 = .ptr I) (e1 : σ₁ 1 = .val b) (e2 : σ₁ 2 = .val v) (hp : pvL b v l = some fi) :
    wpAny (model prog w) A (exec (.While te [sa1, sn, sa2] [] wp) env) (PvEnd mg mb hG env nm N cx K X I ax vs s fi) (fun _ _ => False) s₁ := by
  refine wpAny_While (codeAny_whileLoop (PvInv mg mb hG env nm N cx K X I ax vs s fi) ?_ l.length ⟨X₁, α₁, σ₁, b, v, l, rfl, J, st, it, e0, e1, e2, hp⟩)
  rintro m s₁ ⟨X₁, α₁, σ₁, b, v, l, rfl, J, st, it, e0, e1, e2, hp⟩
  refine wpAny_noRaise ?_
  have tval : ∀ {t q}, binD .BitAnd b (.int 64) = some t → truD t = some q → evm Φ .test (.bin .BitAnd (.var 1) (.int 64)) σ₁ = some (.bool q) := fun {t q} h1 h2 =>
    (congrArg (fun sv => b1 tD (b2 (binD .BitAnd) (varV .strict sv) (some (.int 64)))) e1).trans ((congrArg (b1 tD) h1).trans (congrArg tB h2))
  have after : ∀ {s₂}, Kp s₁ s₂ → SInv mg mb hG env nm N cx K X₁ α₁ σ₁ s₂ ∧ Stay K X I s X₁ s₂ ∧ It s₂.heap X₁ I ax vs l := fun k => ⟨J.kp k, st.trans (.of (Rel.kp k)), it.rel hK (Rel.kp (K := K) (X := X₁) k)⟩
  have stop : ∀ {s₂}, Kp s₁ s₂ → some (v, l) = some fi → PvEnd mg mb hG env nm N cx K X I ax vs s fi .next s₂ := fun k h => Option.some.inj h ▸ let ⟨J2, st2, it2⟩ := after k; ⟨rfl, X₁, α₁, σ₁, J2, st2, it2, e2⟩
  cases l with
  | nil =>
    refine pvT_k hp fun t q h3 h4 hp => tst J.e ht (tval h3 h4) fun s₂ k₂ => ?_
    cases q with
    | false => exact wpAny_execs_nil (stop k₂ hp)
    | true => exact nope hp
  | cons b' r =>
    refine pvT_k hp fun t q h3 h4 hp => tst J.e ht (tval h3 h4) fun s₂ k₂ => ?_
    cases q with
    | false => exact wpAny_execs_nil (stop k₂ hp)
    | true =>
      obtain ⟨J2, st2, it2⟩ := after k₂
      refine pvO_k hp fun v1 h5 hp => pvO_k hp fun c h6 hp => pvO_k hp fun v2 h7 hp => wpAny_noRaise ?_
      have x1 : step Φ (run Φ 0) 0 (.aug .LShift 2 (.int 6)) σ₁ = some (put σ₁ 2 (.val v1), .nxt) := (congrArg (fun sv => kaug .LShift 2 σ₁ sv (some (.int 6))) e2).trans (congrArg (kset 2 σ₁) h5)
      refine wpAny_execs_cons (wpM (h1 0 K X₁ α₁ σ₁ s₂ _ _ J2 x1) fun f s₃ p => ?_)
      obtain ⟨X₃, α₃, J3, r3, hf⟩ := p
      subst hf
      have e30 : put σ₁ 2 (.val v1) 0 = .ptr I := put_ptr e0 (by decide)
      refine wpAny_execs_cons (wpM (hn K X₃ α₃ _ s₃ I ax vs b' r e30 J3 hK hg (it2.rel hK r3)) fun f s₄ p => ?_)
      obtain ⟨rfl, J4, st4, it4⟩ := p
      generalize hσ : put (put σ₁ 2 (.val v1)) 1 (.val b') = σ₄ at J4
      have c1 : σ₄ 2 = .val v1 := hσ ▸ rfl
      have c2 : σ₄ 1 = .val b' := hσ ▸ rfl
      have c0 : σ₄ 0 = .ptr I := hσ ▸ put_ptr e30 (by decide)
      have x2 : step Φ (run Φ 0) 0 (.aug .BitOr 2 (.bin .BitAnd (.var 1) (.int 63))) σ₄ = some (put σ₄ 2 (.val v2), .nxt) :=
        (congrArg (fun sv => kaug .BitOr 2 σ₄ (σ₄ 2) (b2 (binD .BitAnd) (varV .strict sv) (some (.int 63)))) c2).trans ((congrArg (fun sv => kaug .BitOr 2 σ₄ sv (binD .BitAnd b' (.int 63))) c1).trans ((congrArg (kaug .BitOr 2 σ₄ (.val v1)) h6).trans (congrArg (kset 2 σ₄) h7)))
      refine wpAny_execs_cons (wpM (h2 0 K X₃ α₃ _ s₄ _ _ J4 x2) fun f s₅ p => ?_)
      obtain ⟨X₅, α₅, J5, r5, hf⟩ := p
      subst hf
      exact wpAny_execs_nil ⟨r.length, Nat.lt_succ_self _, X₅, α₅, _, b', v2, r, rfl, J5, st2.trans ((Stay.of r3).trans (st4.trans (.of r5))), it4.rel hK r5, put_ptr c0 (by decide), (if_neg (by decide)).trans (by rw [c2]), if_pos rfl, hp⟩

/-- the body's end -/
inductive PvOut (mg mb : Str → Option Value) (hG : Heap) (env : Env) (nm : Nat → Str) (N : Nat) (cx : Cx) (K X : Addr → Prop) (I ax : Addr) (vs : Array Value) (s : Shared) (v : D) (r : List D) (f : Flow) (s' : Shared) : Prop
  | mk (X' : Addr → Prop) (α' : Nat → Addr) (σ' : Slots) (J : SInv mg mb hG env nm N cx K X' α' σ' s') (st : Stay K X I s X' s') (it : It s'.heap X' I ax vs r) (h : ∃ u, f = .ret u ∧ Den s'.heap X' v u)

theorem pv_body {α σ} {l r : List D} {v : D} (hn2 : NextOk prog w A mg mb hG env cx nm N sn2) (hb : SO prog w mg mb hG A Φ nm N cx env sb (.set 2 (.bin .BitAnd (.var 1) (.int 63)))) (hr : Snd prog w mg mb hG A Φ nm env re (.var 2))
    (J : SInv mg mb hG env nm N cx K X α σ s) (it : It s.heap X I ax vs l) (e0 : σ 0 = .ptr I) (hp : pv l = some (v, r)) :
    wpAny (model prog w) A (execs [sn2, sb, .While te [sa1, sn, sa2] [] wp, .Return (some re) rp] env) (PvOut mg mb hG env nm N cx K X I ax vs s v r) (fun _ _ => False) s := by
  cases l with
  | nil => exact nope hp
  | cons b rest =>
    refine pvO_k hp fun c h6 hp => wpAny_execs_cons (wpM (hn2 K X α σ s I ax vs b rest e0 J hK hg it) fun f s₁ p => ?_)
    obtain ⟨rfl, J1, st1, it1⟩ := p
    have x1 : step Φ (run Φ 0) 0 (.set 2 (.bin .BitAnd (.var 1) (.int 63))) (put σ 1 (.val b)) = some (put (put σ 1 (.val b)) 2 (.val c), .nxt) := congrArg (kset 2 (put σ 1 (.val b))) h6
    refine wpAny_execs_cons (wpM (hb 0 K X α _ s₁ _ _ J1 x1) fun f s₂ p => ?_)
    obtain ⟨X₂, α₂, J2, r2, hf⟩ := p
    subst hf
    refine wpAny_execs_cons (wpM (pv_loop hn ht h1 h2 hK hg (X := X) (s := s) J2 (st1.trans (.of r2)) (it1.rel hK r2) (put_ptr (put_ptr e0 (by decide)) (by decide)) rfl rfl hp) fun f s₃ p => ?_)
    obtain ⟨rfl, X₃, α₃, σ₃, J3, st3, it3, e3⟩ := p
    exact wpAny_execs_cons (wpAny_Return_some (ev1 hr J3.e (d := v) (congrArg (varV .strict) e3) fun u s₄ k₄ _ pu => ⟨X₃, α₃, σ₃, J3.kp k₄, st3.trans (.of (Rel.kp k₄)), it3.rel hK (Rel.kp (K := K) (X := X₃) k₄), u, rfl, pu⟩))
end

end
end Mine
end

/-! S25 -/
section
open PySem PySem.W PyProof.Rows
set_option maxRecDepth 4000

namespace Mine
section
variable {prog : Program} {w : World} {mg mb : Str → Option Value} {hG : Heap} {Φ : Str → List D → Option D}

/-- a def is entered: the general form -/
theorem call_enter0 {k : Nat} {f : Str} {params : Arguments} {body : List Stmt} {scope : Scope} {ns ps : List Str} {a : Addr} {o : Obj} {pm doc : Value} {cd : Addr} {A : Around} {s : Shared} {X : Addr → Prop} {vs : List Value} {σ : Slots} {cx : Cx} {R : Result → Shared → Prop}
    (hag : s.heap.get? a = some o) (hdata : o.data = .func (Calls.docDef f params body scope pm (.ref cd) doc)) (hcr : s.heap.CodeRec (.ref cd) f) (sh : Shape ns ps scope)
    (hbind : bindArgs (Calls.docDef f params body scope pm (.ref cd) doc) ⟨vs, []⟩ = pure (ps.zip vs)) (hvl : vs.length = ps.length)
    (hA : OkA (k + 1) A) (B : Bas mg mb hG s.heap) (hL : Alive X s.heap) (hY : ∀ b, cx.Y b → X b ∧ b ≠ s.heap.objs.size ∧ ¬ Gl hG b ∧ ∃ ps, s.heap.get? b = some (tabObj ps) ∧ TriplesOk ps.toList ∧ cx.T s.heap X ps) (hR : cx.R s)
    (hsl : ∀ (env : Env) (X' : Addr → Prop) (s₁ : Shared), (∀ i (hi : i < ps.length), Look env s₁.heap ps[i] (vs[i]'(by omega))) → Mono s.heap X s₁.heap X' → Grow s.heap s₁.heap → ∀ i, SlotOk env (nmAt ns) X' (fun _ => 0) s₁.heap i (σ i))
    (noMut : ∀ i, ¬ Mut (σ i)) (hdom : ∀ y, ns.length ≤ y → σ y = .un)
    (hbody : ∀ (env : Env) (X' : Addr → Prop) (s₁ : Shared), Ok (A.deeper env) (nmAt ns) ns.length env → OkA k (A.deeper env) → env.scope.names = scope.names → (∀ t, 1 ≤ t → SInv mg mb hG env (nmAt ns) ns.length cx (fun b => X b ∧ ¬ cx.Y b) X' (fun _ => 0) σ { s₁ with toks := t }) → Kp s s₁ → (∀ b o, s.heap.get? b = some o → ¬ X b → ¬ X' b) → (∀ b, X b → X' b) →
      (∃ h t, s₁ = { s with heap := h, toks := t }) → env.code = .ref cd → env.qual = f ++ ".<locals>." → wpAny (model prog w) (A.deeper env) (execs body env) (fun f s' => R (.ok (.ret (match f with | .ret v => v | _ => .none))) s') (fun _ _ => False) s₁) :
    codeAny (model prog w) A (.call (.ref a) ⟨vs, []⟩) R s := by
  have hps : ps.Nodup := by
    have := sh.nodup
    rw [← List.take_append_drop ps.length ns, sh.pre] at this
    exact (List.nodup_append.mp this).1
  have hkeys : ((ps.zip vs).map (·.1)) = ps := by
    rw [List.map_fst_zip]
    omega
  have hroom : A.depth < recursionLimit := by
    have := hA.2.1
    unfold recursionLimit
    omega
  refine codeAny_call_function (body := body) hroom hag hdata sh.co sh.gen rfl hcr ?_
  rw [hbind]
  have hkind : ∀ x ∈ ps.zip vs, scope.names.lookup x.1 = some .local ∨ (scope.names.lookup x.1 = some .cell ∧ ((cellsFrom (s.heap.objs.size + 1) scope.names []).lookup x.1).isSome = true) := by
    intro x hx
    have : x.1 ∈ ps := by rw [← hkeys]; exact List.mem_map_of_mem hx
    rcases sh.kinds _ this with h | h
    · exact .inl h
    · exact .inr ⟨h, cellsFrom_some _ _ _ (.inl h)⟩
  refine wpAny_pure (wpAny_with_toks (Nat.le_refl _) (wpAny_newFunctionEnv_cells sh.kind hkind fun env he s₁ x ht₁ => ?_))
  have hL' : env.locals = s.heap.objs.size := by rw [he]; rfl
  have hcs : env.cells = cellsFrom (s.heap.objs.size + 1) scope.names [] := by rw [he]; rfl
  have hnames : env.scope.names = scope.names := by rw [he]; rfl
  have hEnv : EnvOk env := by rw [he]; exact ⟨sh.kind, rfl, rfl⟩
  have hCells : CellsOk env := by
    intro n hn
    have h1 : scope.names.lookup n = some .cell := by rw [← hnames]; exact hn
    have := cellsFrom_some scope.names (s.heap.objs.size + 1) [] (.inl h1)
    rw [← hcs] at this
    exact Option.isSome_iff_exists.mp this
  have hkeep := x.toInCall.keep
  obtain ⟨h₁, t₁, hs₁⟩ := x.toInCall.same
  have hA' : OkA k (A.deeper env) := by
    obtain ⟨h1, h2, h3⟩ := hA
    refine ⟨h1, ?_, ?_⟩
    · show A.depth + 1 + k ≤ 500
      omega
    · show A.units + 3 + 10 * k ≤ 5000
      omega
  have hOk : Ok (A.deeper env) (nmAt ns) ns.length env := ⟨hEnv, hCells, hA'.1, fun i j hi hj e => by
    unfold nmAt at e
    rw [List.getD_eq_getElem?_getD, List.getD_eq_getElem?_getD, List.getElem?_eq_getElem hi, List.getElem?_eq_getElem hj] at e
    exact nodup_inj sh.nodup hi hj (by simpa using e)⟩
  have size_lt : ∀ {b ob}, s.heap.get? b = some ob → b < s.heap.objs.size := fun e => Heap.lt_size e
  have cellG : ∀ n c, env.kindOf n = some .cell → env.cells.lookup n = some c → s.heap.objs.size < c := fun n c _ hc => by
    have := x.above n c (PySem.mem_of_lookup hc)
    rwa [hL'] at this
  let X' : Addr → Prop := fun b => X b ∨ b = env.locals ∨ ∃ n, env.kindOf n = some .cell ∧ env.cells.lookup n = some b
  have freshX : ∀ b ob, s.heap.get? b = some ob → ¬ X b → ¬ X' b := by
    rintro b ob e n (h | h | ⟨m, hk, hc⟩)
    · exact n h
    · rw [hL'] at h; exact absurd (size_lt e) (by rw [h]; exact Nat.lt_irrefl _)
    · exact absurd (cellG m b hk hc) (Nat.not_lt.mpr (Nat.le_of_lt (size_lt e)))
  have mono : Mono s.heap X s₁.heap X' := fun b ob e n => ⟨hkeep b ob e, freshX b ob e n⟩
  have looks : ∀ i (hi : i < ps.length), Look env s₁.heap ps[i] (vs[i]'(by omega)) := by
    intro i hi
    have hvi : i < vs.length := by omega
    have hmem : (ps[i], vs[i]) ∈ ps.zip vs := by
      have : (ps.zip vs)[i]'(by simp; omega) = (ps[i], vs[i]) := by simp
      rw [← this]
      exact List.getElem_mem _
    have hkp : env.kindOf ps[i] = some .local ∨ env.kindOf ps[i] = some .cell := by
      have := sh.kinds ps[i] (List.getElem_mem hi)
      rw [← hnames] at this
      exact this
    rcases hkp with h | h
    · exact .inl ⟨h, _, x.toInCall.ns, bindL_in h (by rw [hkeys]; exact hps) hmem⟩
    · obtain ⟨c, hc⟩ := hCells _ h
      refine .inr ⟨h, c, hc, ?_⟩
      have := x.cell _ c hc
      rw [bindC_in (by rw [h]; decide) (by rw [hkeys]; exact hps) hmem] at this
      exact this
  have yne : ∀ b, cx.Y b → ∃ ob, s.heap.get? b = some ob := fun b hb => let ⟨_, _, _, _, e, _⟩ := hY b hb; ⟨_, e⟩
  have I : ∀ t, 1 ≤ t → SInv mg mb hG env (nmAt ns) ns.length cx (fun b => X b ∧ ¬ cx.Y b) X' (fun _ => 0) σ { s₁ with toks := t } := by
    intro t0 ht0
    refine ⟨⟨B.grow hkeep, ht0, ?_, hsl env X' s₁ looks mono hkeep⟩, fun b h => .inl h.1, fun b h => ?_, ?_, .inr (.inl rfl), ?_, ?_, ⟨_, x.toInCall.ns⟩, ?_, fun i h => absurd h (noMut i), hdom, ?_⟩
    · rintro b (h | h | ⟨m, hk, hc⟩)
      · obtain ⟨ob, e⟩ := hL b h
        exact ⟨ob, hkeep b ob e⟩
      · obtain ⟨ob, _, _, e, _⟩ := x.toInCall.ns
        exact ⟨ob, h ▸ e⟩
      · obtain ⟨ob, e, _⟩ := x.cell m b hc
        exact ⟨ob, e⟩
    · obtain ⟨h1, _, _, qs, e, t, T⟩ := hY b h
      exact ⟨.inl h1, fun h' => h'.2 h, qs, hkeep _ _ e, t, cx.hT _ _ _ _ _ mono T⟩
    · rw [hs₁]; exact cx.hR s h₁ t0 hR
    · intro h
      obtain ⟨ob, e⟩ := hL _ h.1
      rw [hL'] at e
      exact absurd (size_lt e) (Nat.lt_irrefl _)
    · intro h
      obtain ⟨ob, e⟩ := yne _ h
      rw [hL'] at e
      exact absurd (size_lt e) (Nat.lt_irrefl _)
    · intro n hn
      obtain ⟨c, hc⟩ := hCells n hn
      have hlt := cellG n c hn hc
      refine ⟨c, hc, .inr (.inr ⟨n, hn, hc⟩), fun h => ?_, fun h => ?_, fun h => ?_, ⟨_, x.cell n c hc⟩, fun n' hne hn' hc' => ?_⟩
      · obtain ⟨ob, e⟩ := hL _ h.1
        exact absurd (size_lt e) (Nat.not_lt.mpr (Nat.le_of_lt hlt))
      · obtain ⟨ob, e⟩ := yne _ h
        exact absurd (size_lt e) (Nat.not_lt.mpr (Nat.le_of_lt hlt))
      · rw [hL'] at h; rw [h] at hlt; exact Nat.lt_irrefl _ hlt
      · exact hne (name_of_addr x.apart (PySem.mem_of_lookup hc') (PySem.mem_of_lookup hc))
    · intro b hb
      obtain ⟨ob, e⟩ := B.gl hb
      by_cases h : X b
      · exact .inr ⟨h, fun hy => (hY b hy).2.2.1 hb⟩
      · exact .inl (freshX b ob e h)
  refine ⟨B.lim.keeps hkeep, codeAny_func (wpAny_noRaise ?_)⟩
  exact hbody env X' s₁ hOk hA' hnames I ⟨⟨h₁, t₁, hs₁, fun b o e => by have := hkeep b o e; rw [hs₁] at this; exact this⟩, ht₁⟩ freshX (fun b h => .inl h) ⟨h₁, t₁, hs₁⟩ (by rw [he]; rfl) (by rw [he]; rfl)
theorem call_enter {k : Nat} {f : Str} {params : Arguments} {body : List Stmt} {scope : Scope} {ns ps : List Str} {a : Addr} {o : Obj} {pm doc : Value} {cd : Addr} {A : Around} {s : Shared} {X : Addr → Prop} {vs : List Value} {σ : Slots} {cx : Cx} {R : Result → Shared → Prop}
    (hag : s.heap.get? a = some o) (hdata : o.data = .func (Calls.docDef f params body scope pm (.ref cd) doc)) (hcr : s.heap.CodeRec (.ref cd) f) (sh : Shape ns ps scope)
    (hbind : bindArgs (Calls.docDef f params body scope pm (.ref cd) doc) ⟨vs, []⟩ = pure (ps.zip vs)) (hvl : vs.length = ps.length)
    (hA : OkA (k + 1) A) (B : Bas mg mb hG s.heap) (ht : 1 ≤ s.toks) (hL : Alive X s.heap) (hY : ∀ b, cx.Y b → X b ∧ b ≠ s.heap.objs.size ∧ ¬ Gl hG b ∧ ∃ ps, s.heap.get? b = some (tabObj ps) ∧ TriplesOk ps.toList ∧ cx.T s.heap X ps) (hR : cx.R s)
    (hsl : ∀ (env : Env) (X' : Addr → Prop) (s₁ : Shared), (∀ i (hi : i < ps.length), Look env s₁.heap ps[i] (vs[i]'(by omega))) → Mono s.heap X s₁.heap X' → Grow s.heap s₁.heap → ∀ i, SlotOk env (nmAt ns) X' (fun _ => 0) s₁.heap i (σ i))
    (noMut : ∀ i, ¬ Mut (σ i)) (hdom : ∀ y, ns.length ≤ y → σ y = .un)
    (hbody : ∀ (env : Env) (X' : Addr → Prop) (s₁ : Shared), Ok (A.deeper env) (nmAt ns) ns.length env → OkA k (A.deeper env) → env.scope.names = scope.names → SInv mg mb hG env (nmAt ns) ns.length cx (fun b => X b ∧ ¬ cx.Y b) X' (fun _ => 0) σ s₁ → Kp s s₁ → (∀ b o, s.heap.get? b = some o → ¬ X b → ¬ X' b) → (∀ b, X b → X' b) →
      (∃ h t, s₁ = { s with heap := h, toks := t }) → env.code = .ref cd → env.qual = f ++ ".<locals>." → wpAny (model prog w) (A.deeper env) (execs body env) (fun f s' => R (.ok (.ret (match f with | .ret v => v | _ => .none))) s') (fun _ _ => False) s₁) :
    codeAny (model prog w) A (.call (.ref a) ⟨vs, []⟩) R s := by
  refine call_enter0 (σ := σ) (cx := cx) (X := X) hag hdata hcr sh hbind hvl hA B hL hY hR hsl noMut hdom fun env X' s₁ h1 h2 h3 J kp => ?_
  exact hbody env X' s₁ h1 h2 h3 (J s₁.toks (Nat.le_trans ht kp.2)) kp

theorem slots0_mut {ds : List D} (i : Nat) : ¬ Mut (slots0 ds i) := by
  unfold slots0
  cases ds[i]? <;> exact id
theorem slots0_dom {ns ps : List Str} {scope : Scope} {ds : List D} (sh : Shape ns ps scope) (hl : ds.length = ps.length) (y : Nat) (hy : ns.length ≤ y) : slots0 ds y = .un := by
  have hnl : ps.length ≤ ns.length := by
    rw [← sh.pre]; exact List.length_take_le' _ _
  unfold slots0
  rw [List.getElem?_eq_none (Nat.le_trans (hl ▸ hnl) hy)]
theorem slots0_ok {ns ps : List Str} {scope : Scope} {ds : List D} {vs : List Value} {h h' : Heap} {X X' : Addr → Prop} {env : Env} (sh : Shape ns ps scope) (hl : ds.length = ps.length) (hvl : vs.length = ps.length) (q : DenL h X ds vs)
    (lk : ∀ i (hi : i < ps.length), Look env h' ps[i] (vs[i]'(by omega))) (m : Mono h X h' X') (i : Nat) : SlotOk env (nmAt ns) X' (fun _ => 0) h' i (slots0 ds i) := by
  unfold slots0
  cases hd : ds[i]? with
  | none => exact trivial
  | some di =>
    obtain ⟨v, hv, pv⟩ := q.get hd
    have hi : i < ps.length := hl ▸ (List.getElem?_eq_some_iff.mp hd).1
    have hni : nmAt ns i = ps[i] := by
      have e1 : ns[i]? = ps[i]? := by rw [← sh.pre, List.getElem?_take_of_lt hi]
      unfold nmAt
      rw [List.getD_eq_getElem?_getD, e1, List.getElem?_eq_getElem hi]
      rfl
    have hvi : i < vs.length := hvl ▸ hi
    have e2 : vs[i] = v := Option.some.inj ((List.getElem?_eq_getElem hvi).symm.trans hv)
    exact ⟨v, by rw [hni, ← e2]; exact lk i hi, pv.mono m⟩
theorem code_over {h : Heap} {cd : Addr} {f : Str} (B : Bas mg mb hG h) (hcd : cd ≠ tabA) (hc : hG.CodeRec (.ref cd) f) : h.CodeRec (.ref cd) f := by
  obtain ⟨c, oc, us, tq, e1, e2, e3⟩ := hc
  cases e1
  exact ⟨_, oc, us, tq, rfl, B.over _ oc hcd e2, e3⟩
/-- nothing but the heap and the count has changed -/
theorem same_rest {s s' : Shared} (g1 : s'.gens = s.gens) (g2 : s'.drawn = s.drawn) (g3 : s'.os = s.os) : s' = { s with heap := s'.heap, toks := s'.toks } := by
  obtain ⟨hp', gg, dd, tt, oo⟩ := s'
  subst (g1 : gg = _) (g2 : dd = _) (g3 : oo = _)
  rfl
noncomputable def cxN (s : Shared) : Cx := ⟨fun _ => False, fun s' => s'.gens = s.gens ∧ s'.drawn = s.drawn ∧ s'.os = s.os, fun _ _ _ h => h, fun _ _ _ => True, fun _ _ _ _ _ _ _ => trivial⟩

theorem fspec_of {k : Nat} {f : Str} {params : Arguments} {body : List Stmt} {scope : Scope} {ns ps : List Str} {fuel : Nat} {code : List S} (hat : DefAt mg hG f params body scope) (sh : Shape ns ps scope)
    (hbind : ∀ pm cd doc vs, vs.length = ps.length → bindArgs (Calls.docDef f params body scope pm cd doc) ⟨vs, []⟩ = pure (ps.zip vs))
    (hbody : ∀ (A : Around) (env : Env) (cx : Cx), OkA k A → Ok A (nmAt ns) ns.length env → env.scope.names = scope.names → SS prog w mg mb hG A Φ (nmAt ns) ns.length cx env body code) :
    FSpec prog w mg mb hG (k + 1) f (runFn Φ fuel ps.length code) := by
  intro ds d hrun
  refine runFn_k hrun fun hlen σ' hr => ?_
  obtain ⟨a, o, pm, cd, doc, ha, hat1, hag, hdata, hcd, hcode⟩ := hat
  refine ⟨a, ha, fun A s X vs hA B ht hL q => ?_⟩
  have ho := B.over a o hat1 hag
  have hvl : vs.length = ps.length := q.length.trans hlen
  refine ⟨o, _, ho, hdata, call_enter (mg := mg) (mb := mb) (hG := hG) (k := k) (σ := slots0 ds) (cx := cxN s) (X := X) ho hdata (code_over B hcd hcode) sh (hbind _ _ _ _ hvl) hvl hA B ht hL (fun _ h => h.elim) ⟨rfl, rfl, rfl⟩ (fun env X' s₁ lk m g => slots0_ok sh hlen hvl q lk m) slots0_mut (slots0_dom sh hlen) fun env X' s₁ hO hA' hn J kp fr sub same _ _ => ?_⟩
  refine wpM (hbody _ env _ hA' hO hn fuel _ X' _ _ s₁ σ' _ J hr) fun fl s' pst => ?_
  obtain ⟨X'', α', I', R', v, rfl, pv⟩ := pst
  refine ⟨v, rfl, ⟨⟨s'.heap, s'.toks, same_rest I'.rest.1 I'.rest.2.1 I'.rest.2.2, fun b o e => ?_⟩, Nat.le_trans kp.2 R'.2.2⟩, pv.mono fun b ob e n => ⟨e, fun h => n (I'.sub b ⟨h, id⟩)⟩⟩
  by_cases h : X b
  · exact R'.2.1 b o ⟨h, id⟩ (kp.grow _ _ e)
  · exact (R'.1 b o (kp.grow _ _ e) (fr b o e h)).1

/-- a call of _parse_varint -/
noncomputable def PvSpec (prog : Program) (w : World) (mg mb : Str → Option Value) (hG : Heap) (k : Nat) (f : Str) : Prop :=
  ∃ a, mg f = some (.ref a) ∧ ∀ (A : Around) (s : Shared) (X : Addr → Prop) (I ax : Addr) (vs : Array Value) (l r : List D) (v : D), OkA k A → Bas mg mb hG s.heap → 1 ≤ s.toks → Alive X s.heap → X I → ¬ Gl hG I → It s.heap X I ax vs l → pv l = some (v, r) →
    ∃ o fd, s.heap.get? a = some o ∧ o.data = .func fd ∧
      codeAny (model prog w) A (.call (.ref a) ⟨[.ref I], []⟩) (fun rr s' => ∃ u, rr = .ok (.ret u) ∧ (∃ h t, s' = { s with heap := h, toks := t }) ∧ s.toks ≤ s'.toks ∧
        (∀ b o, b ≠ I → s.heap.get? b = some o → s'.heap.get? b = some o) ∧ It s'.heap X I ax vs r ∧ Den s'.heap X v u) s

theorem pvspec_of {k : Nat} {f ni nb nv : Str} {params : Arguments} {scope : Scope} {sn sn2 sb sa1 sa2 : Stmt} {te re : Expr} {wp rp : Pos}
    (hat : DefAt mg hG f params [sn, sb, .While te [sa1, sn2, sa2] [] wp, .Return (some re) rp] scope) (sh : Shape [ni, nb, nv] [ni] scope)
    (hbind : ∀ pm cd doc v, bindArgs (Calls.docDef f params [sn, sb, .While te [sa1, sn2, sa2] [] wp, .Return (some re) rp] scope pm cd doc) ⟨[v], []⟩ = pure [(ni, v)])
    (h : ∀ (A : Around) (env : Env) (cx : Cx), OkA k A → Ok A (nmAt [ni, nb, nv]) 3 env → env.scope.names = scope.names →
      NextOk prog w A mg mb hG env cx (nmAt [ni, nb, nv]) 3 sn ∧ NextOk prog w A mg mb hG env cx (nmAt [ni, nb, nv]) 3 sn2 ∧ SO prog w mg mb hG A Φ (nmAt [ni, nb, nv]) 3 cx env sb (.set 2 (.bin .BitAnd (.var 1) (.int 63))) ∧
      Snd prog w mg mb hG A Φ (nmAt [ni, nb, nv]) env te (.bin .BitAnd (.var 1) (.int 64)) ∧ SO prog w mg mb hG A Φ (nmAt [ni, nb, nv]) 3 cx env sa1 (.aug .LShift 2 (.int 6)) ∧
      SO prog w mg mb hG A Φ (nmAt [ni, nb, nv]) 3 cx env sa2 (.aug .BitOr 2 (.bin .BitAnd (.var 1) (.int 63))) ∧ Snd prog w mg mb hG A Φ (nmAt [ni, nb, nv]) env re (.var 2)) :
    PvSpec prog w mg mb hG (k + 1) f := by
  obtain ⟨a, o, pm, cd, doc, ha, hat1, hag, hdata, hcd, hcode⟩ := hat
  refine ⟨a, ha, fun A s X I ax vs l r v hA B ht hL hX hg it hp => ?_⟩
  have ho := B.over a o hat1 hag
  refine ⟨o, _, ho, hdata, ?_⟩
  have hcr := code_over B hcd hcode
  refine call_enter (mg := mg) (mb := mb) (hG := hG) (k := k) (σ := fun i => if i = 0 then .ptr I else .un) (cx := cxN s) (X := X) ho hdata hcr sh (hbind _ _ _ _) rfl hA B ht hL (fun _ h => h.elim) ⟨rfl, rfl, rfl⟩ (fun env X' s₁ lk m g i => ?_) (fun i h => ?_) (fun y hy => ?_) ?_
  · cases i with
    | zero =>
      show Look env s₁.heap (nmAt [ni, nb, nv] 0) (.ref I)
      exact lk 0 (Nat.zero_lt_one)
    | succ i =>
      simp only [Nat.succ_ne_zero, if_false]
      exact trivial
  · by_cases hi : i = 0
    · rw [if_pos hi] at h; exact h.elim
    · rw [if_neg hi] at h; exact h.elim
  · have hy' : 3 ≤ y := hy
    exact if_neg (by omega)
  · intro env X' s₁ hO hA' hn J kp fr sub same _ _
    obtain ⟨q1, q2, q3, q4, q5, q6, q7⟩ := h _ env (cxN s) hA' hO hn
    have hK : X I ∧ ¬ (cxN s).Y I := ⟨hX, fun h => h⟩
    have it1 : It s₁.heap X' I ax vs l := by
      obtain ⟨⟨i, le, hi, q⟩, li, ne, nx, sc⟩ := it
      obtain ⟨oi, ei, ri⟩ := hi
      obtain ⟨ol, el, rl⟩ := li
      exact ⟨⟨i, le, ⟨oi, kp.grow _ _ ei, ri⟩, q.scal sc⟩, ⟨ol, kp.grow _ _ el, rl⟩, ne, fr _ _ el nx, sc⟩
    refine wpAny_mono (pv_body q2 q4 q5 q6 hK hg q1 q3 q7 J it1 rfl hp) (fun fl s' pst => ?_) fun _ _ e => e
    obtain ⟨X'', α', σ', J', st, it2, u, rfl, pu⟩ := pst
    have anti : ∀ b, ¬ X'' b → ¬ X b := fun b n h => n (J'.sub b ⟨h, fun h => h⟩)
    refine ⟨u, rfl, ?_, Nat.le_trans kp.2 st.2, fun b ob hb e => ?_, ?_, pu.mono fun b ob e n => ⟨e, anti b n⟩⟩
    · exact ⟨s'.heap, s'.toks, same_rest J'.rest.1 J'.rest.2.1 J'.rest.2.2⟩
    · have z := st.1 b ob hb (kp.grow _ _ e)
      by_cases h : X b
      · exact z.2 ⟨h, fun h => h⟩
      · exact (z.1 (fr b ob e h)).1
    · obtain ⟨⟨i, le, hi, q⟩, li, ne, nx, sc⟩ := it2
      exact ⟨⟨i, le, hi, q.scal sc⟩, li, ne, anti _ nx, sc⟩

end
end Mine
end

/-! S26 -/
section
open PySem PySem.W PyProof.Rows
set_option maxRecDepth 4000

namespace Mine

noncomputable def sL (f : List D → Option Slots) : Option D → Option Slots
  | some (.list l) => f l
  | _ => none
noncomputable def sI (f : Int → Option Slots) : Option D → Option Slots
  | some (.int l) => f l
  | _ => none
noncomputable def sP (f : D → List D → Option Slots) : Option (D × List D) → Option Slots
  | some (v, r) => f v r
  | none => none
noncomputable def svO (f : List D → Option Slots) : SV → Option Slots
  | .own l => f l
  | _ => none
noncomputable def svS (f : List Nat → Option Slots) : SV → Option Slots
  | .val (.str l) => f l
  | _ => none
theorem svO_k {G : Prop} {q : Slots} {f : List D → Option Slots} {sv : SV} (e : svO f sv = some q) (k : ∀ l, sv = .own l → f l = some q → G) : G := by
  cases sv with
  | own l => exact k l rfl e
  | _ => exact nope e
theorem svS_k {G : Prop} {q : Slots} {f : List Nat → Option Slots} {sv : SV} (e : svS f sv = some q) (k : ∀ l, sv = .val (.str l) → f l = some q → G) : G := by
  cases sv with
  | val d => cases d with
    | str l => exact k l rfl e
    | _ => exact nope e
  | _ => exact nope e
noncomputable def threeF (Φ : Str → List D → Option D) (e1 e3 : E) (xl xn xs : Nat) (σ : Slots) : Option Slots :=
  sL (fun l => if l.length ≤ lim ∧ (∀ d ∈ l, scal d = true) then sP (fun v r => sI (fun m => if r.length ≤ lim then some (put (put (put σ xl .un) xn (.val v)) xs (.val (.int (m - r.length)))) else none) (evm Φ .strict e3 (put (put σ xl .un) xn (.val v)))) (pv l) else none) (evm Φ .strict e1 σ)
section
variable {G : Prop} {o : Option D} {q : Slots}
theorem sL_k {f : List D → Option Slots} (e : sL f o = some q) (k : ∀ l, o = some (.list l) → f l = some q → G) : G := by
  cases o with
  | none => exact nope e
  | some d => cases d with
    | list l => exact k l rfl e
    | _ => exact nope e
theorem sI_k {f : Int → Option Slots} (e : sI f o = some q) (k : ∀ l, o = some (.int l) → f l = some q → G) : G := by
  cases o with
  | none => exact nope e
  | some d => cases d with
    | int l => exact k l rfl e
    | _ => exact nope e
theorem sP_k {f : D → List D → Option Slots} {o : Option (D × List D)} (e : sP f o = some q) (k : ∀ v r, o = some (v, r) → f v r = some q → G) : G := by
  cases o with
  | none => exact nope e
  | some d => exact k d.1 d.2 rfl e
end

section
variable {prog : Program} {w : World} {A : Around} {mg mb : Str → Option Value} {hG : Heap} {env : Env} {cx : Cx} {nm : Nat → Str} {N : Nat} {Φ : Str → List D → Option D}

/-- slots are forgotten -/
theorem SInv.forget {K X α σ σ' s} (J : SInv mg mb hG env nm N cx K X α σ s) (h : ∀ y, σ' y = σ y ∨ σ' y = .un) : SInv mg mb hG env nm N cx K X α σ' s := by
  have mt : ∀ y, Mut (σ' y) → Mut (σ y) := fun y hm => by
    rcases h y with e | e
    · rw [e] at hm; exact hm
    · rw [e] at hm; exact hm.elim
  refine ⟨⟨J.e.bas, J.e.tok, J.e.live, fun y => ?_⟩, J.sub, J.ysub, J.rest, J.fX, J.fK, J.fY, J.fns, J.cell, fun y hm => ?_, fun y hy => ?_, J.glob⟩
  · rcases h y with e | e
    · rw [e]; exact J.e.slots y
    · rw [e]; exact trivial
  · obtain ⟨a1, a2⟩ := J.own y (mt y hm)
    exact ⟨a1, fun z hz hmz => a2 z hz (mt z hmz)⟩
  · rcases h y with e | e
    · rw [e]; exact J.dom y hy
    · exact e

theorem len_list_g {L : Addr} {items : Array Value} {X : Addr → Prop} {s : Shared} (hl : s.heap.IsList L items) (hb : items.size ≤ lim) : Gives (model prog w) A (call (.builtin "len") [.ref L]) X (.int items.size) s := by
  have two := two63
  have hl' : lim = 16777216 := rfl
  exact gives_of fun Q E h => PyProof.Rows.len_list hl (by omega) (h _ _ (keeps_toks _ _) den_int)

theorem ss_three {k : Nat} {nl nn nz fn ni lt ln : Str} {p1 p2 p3 p4 p5 p6 p7 p8 p9 p10 p11 p12 p13 p14 p15 p16 p17 : Pos} {ex1 ex3 : Expr} {e1 e3 : E} {xl xn xs : Nat} {l : List Stmt} {cs : List S}
    (O : Ok A nm N env) (hA : OkA k A) (hb : Built mg mb) (P : PvSpec prog w mg mb hG k fn)
    (s1 : Snd prog w mg mb hG A Φ nm env ex1 e1) (pe1 : plainE ex1 = true) (s3 : Snd prog w mg mb hG A Φ nm env ex3 e3)
    (hxl : nm xl = nl) (hxn : nm xn = nn) (hxs : nm xs = nz) (lN : xl < N) (nN : xn < N) (zN : xs < N)
    (kl : env.kindOf nl = some .local ∨ env.kindOf nl = some .cell) (kn : env.kindOf nn = some .local ∨ env.kindOf nn = some .cell) (kz : env.kindOf nz = some .local ∨ env.kindOf nz = some .cell)
    (ki : env.kindOf ni = some .globalImplicit) (hi : ni = "iter") (kt : env.kindOf lt = some .globalImplicit) (ht : lt = "list") (kq : env.kindOf ln = some .globalImplicit) (hq : ln = "len")
    (kf : env.kindOf fn = some .globalImplicit) (df : (fn == ("__debug__" : Str)) = false) (dl : (nl == ("__debug__" : Str)) = false) (hne : xl ≠ xn)
    (h : SS prog w mg mb hG A Φ nm N cx env l cs) :
    SS prog w mg mb hG A Φ nm N cx env (
      .Assign [.Name nl p1] (.Call (.Name ni p2) [ex1] [] p3) p4 ::
      .Assign [.Name nn p5] (.Call (.Name fn p6) [.Name nl p7] [] p8) p9 ::
      .Assign [.Name nz p10] (.BinOp ex3 .Sub (.Call (.Name ln p11) [.Call (.Name lt p12) [.Name nl p13] [] p14] [] p15) p16) p17 :: l) (.spec (threeF Φ e1 e3 xl xn xs) :: cs) := by
  subst hi; subst ht; subst hq
  intro n K X α σ s σ' fl I hr
  cases n with
  | zero => exact nope hr
  | succ n =>
    refine specR_k hr fun σ₃ hf hr => sL_k hf fun ol h1 hf => if_k hf fun hsc hf => sP_k hf fun v r h2 hf => sI_k hf fun m h3 hf => if_k hf fun hrl hf => ?_
    replace hr : run Φ n cs _ = some (σ', fl) := (congrArg (run Φ n cs) (Option.some.inj hf)).trans hr
    clear hf
    -- left = iter(...)
    refine wpAny_execs_cons (wpAny_Assign_Name (Call_ (eval_built O.hE (by decide +kernel) ki I.e.bas hb.iter ?_) rfl) rfl)
    refine callWith_builtin1 (wpAny_items_cons (ev1 s1 I.e h1 fun u s₁ k₁ _ pu => wpAny_items_nil ?_) (starEach_plain pe1)) (starEach_plain pe1) rfl
    obtain ⟨q, vs, rfl, hXq, hl, dq⟩ := den_list_inv pu
    have I₁ := I.kp k₁
    have hq0 : q ≠ s₁.heap.objs.size := by
      obtain ⟨c, e⟩ := hl
      exact Nat.ne_of_lt (Heap.lt_size e)
    refine call_iter hl.isList ?_
    have kI : Kp s₁ { s₁ with heap := s₁.heap.push { cls := .type "list_iterator", data := .fields #[.ref q, .int 0 0] } } := kp_push s₁ _
    obtain ⟨J, R⟩ := I₁.guard kI (get_new _) ⟨_, Heap.get?_push_size _ rfl⟩
    generalize hIt : s₁.heap.objs.size = It0 at *
    have hgl : ¬ Gl hG It0 := not_glob I₁ (by rw [← hIt]; exact get_new _)
    have hKI : ¬ K It0 := fun hk => by
      obtain ⟨o, e⟩ := I₁.e.live It0 (I₁.sub It0 hk)
      rw [← hIt, get_new] at e; cases e
    generalize hs1 : ({ s₁ with heap := s₁.heap.push { cls := .type "list_iterator", data := .fields #[.ref q, .int 0 0] } } : Shared) = s1' at *
    have it1 : It s1'.heap (Add1 X It0) It0 q vs ol := by
      subst hs1
      refine ⟨⟨0, Nat.zero_le _, ⟨_, by rw [← hIt]; exact Heap.get?_push_size _ rfl, rfl, rfl⟩, dq.scal hsc.2⟩, hl.isList.push _, hq0, fun h => h.elim hXq hq0, hsc.2⟩
    have inj : ∀ x n, nm x = n → x < N → ∀ y, y < N → nm y = n → y = x := fun x n hx hxN y hy h => O.inj y x hy hxN (h.trans hx.symm)
    refine store_gen (sv := .ptr It0) (α' := α) hxl lN (inj _ _ hxl lN) O.hE J kl (fun _ _ => rfl) (fun t h' _ _ _ lk => by rw [← hxl] at lk; exact lk) (fun h => h.elim) fun s₂ J2 r2 => ?_
    have it2 := it1.rel (.inr rfl) r2
    have st2 : Stay (Add1 K It0) (Add1 X It0) It0 s1' (Add1 X It0) s₂ := .of r2
    -- number = f(left)
    obtain ⟨fa, hfa, P⟩ := P
    have lk2 : Look env s₂.heap nl (.ref It0) := by
      have h := J2.e.slots xl
      rw [put_self] at h
      have h' : Look env s₂.heap (nm xl) (.ref It0) := h
      rw [hxl] at h'
      exact h'
    obtain ⟨fo, fd, hfo, hfd, hcall⟩ := P A s₂ (Add1 X It0) It0 q vs ol r v hA J2.e.bas J2.e.tok J2.e.live (.inr rfl) hgl it2 h2
    refine wpAny_execs_cons (wpAny_Assign_Name (Call_ (eval_glob O.hE df kf J2.e.bas hfa ?_) rfl) rfl)
    refine callWith_fn (by simp [plainE]) (wpAny_items_cons (eval_look O.hE dl lk2 (wpAny_items_nil ⟨⟨fo, fd, hfo, hfd⟩, ?_⟩)) (starEach_plain rfl))
    refine wpAny_call (codeAny_mono hcall fun rr s₃ hp => ?_)
    obtain ⟨u, rfl, ⟨h3', t3, hs3⟩, tk3, keep3, it3, pu3⟩ := hp
    subst hs3
    have J3 : SInv mg mb hG env nm N cx (Add1 K It0) (Add1 X It0) α (put σ xl (.ptr It0)) { s₂ with heap := h3', toks := t3 } :=
      J2.tick (.inr rfl) hgl keep3 tk3 (fun _ h => h) (fun _ h _ => h) (fun _ => (let ⟨_, _, ⟨o, e, _⟩, _⟩ := it3.it; ⟨o, e⟩)) (fun b h => ⟨h, J2.sub b h⟩) (fun _ h _ => h)
    have st3 : Stay (Add1 K It0) (Add1 X It0) It0 s₂ (Add1 X It0) { s₂ with heap := h3', toks := t3 } := ⟨fun b o hb e => ⟨fun n => ⟨keep3 b o hb e, n⟩, fun _ => keep3 b o hb e⟩, tk3⟩
    refine store_val hxn nN (inj _ _ hxn nN) O.hE J3 kn pu3 fun s₄ J4 r4 => ?_
    have it4 := it3.rel (.inr rfl) r4
    have lk4 : Look env s₄.heap nl (.ref It0) := by
      have h := J4.e.slots xl
      have e : put (put σ xl (.ptr It0)) xn (.val v) xl = .ptr It0 := by unfold put; rw [if_neg hne, if_pos rfl]
      rw [e] at h
      have h' : Look env s₄.heap (nm xl) (.ref It0) := h
      rw [hxl] at h'
      exact h'
    have J4' : SInv mg mb hG env nm N cx (Add1 K It0) (Add1 X It0) α (put (put σ xl .un) xn (.val v)) s₄ := J4.forget fun y => by
      unfold put
      by_cases h1 : y = xn
      · rw [if_pos h1, if_pos h1]; exact .inl rfl
      · rw [if_neg h1, if_neg h1]
        by_cases h2 : y = xl
        · rw [if_pos h2, if_pos h2]; exact .inr rfl
        · rw [if_neg h2, if_neg h2]; exact .inl rfl
    -- size = ... - len(list(left))
    refine wpAny_execs_cons (wpAny_Assign_Name (wpAny_BinOp (ev1 s3 J4'.e h3 fun u3 s₅ k₅ _ p5 => ?_)) rfl)
    have J5 := J4'.kp k₅
    have it5 := it4.rel (.inr rfl) (Rel.kp (K := Add1 K It0) (X := Add1 X It0) k₅)
    refine Call_ (eval_built O.hE (by decide +kernel) kq J5.e.bas hb.len ?_) rfl
    refine callWith_builtin1 (wpAny_items_cons ?_ (starEach_plain rfl)) (starEach_plain rfl) rfl
    refine Call_ (eval_built O.hE (by decide +kernel) kt J5.e.bas hb.list ?_) rfl
    refine callWith_type1 (wpAny_items_cons (eval_look O.hE dl (lk4.grow k₅.grow) (wpAny_items_nil ?_)) (starEach_plain rfl)) (starEach_plain rfl) rfl
    obtain ⟨i5, le5, hi5, q5⟩ := it5.it
    have hlen5 : vs.size - i5 = r.length := by
      have := q5.length
      rw [List.length_drop, Array.length_toList] at this
      exact this
    refine call_list_iter O.hh hi5 it5.li le5 (by rw [hlen5, ← lim_eq]; exact hrl) it5.ne fun h6 tk6 acc c6 keep6 tk6' hL6 hsz6 => ?_
    have J6 : SInv mg mb hG env nm N cx K (Del1 (Add1 X It0) It0) α (put (put σ xl .un) xn (.val v)) { s₅ with heap := h6, toks := tk6 } :=
      J5.tick (.inr rfl) hgl keep6 tk6' (fun b h => h.1) (fun b h h' => ⟨h, h'⟩) (fun h => absurd rfl h.2) (fun b h => ⟨.inl h, ⟨.inl (I₁.sub b h), fun h' => hKI (h' ▸ h)⟩⟩) (fun b h h' => h.elim id fun h => absurd h h')
    have st5 : Stay (Add1 K It0) (Add1 X It0) It0 s1' (Add1 X It0) s₅ := st2.trans (st3.trans ((Stay.of r4).trans (.of (Rel.kp k₅))))
    have R6 : Rel K X s (Del1 (Add1 X It0) It0) { s₅ with heap := h6, toks := tk6 } := by
      have nI : ∀ b o, s₁.heap.get? b = some o → b ≠ It0 := fun b o e h => by rw [h, ← hIt, get_new] at e; cases e
      refine ⟨fun b o e n => ?_, fun b o kb e => ?_, ?_⟩
      · have e1 := k₁.grow _ _ e
        have hb := nI b o e1
        have z := (st5.1 b o hb (kI.grow _ _ e1)).1 (fun h => h.elim n hb)
        exact ⟨keep6 b o hb z.1, fun h => h.1.elim n hb⟩
      · have e1 := k₁.grow _ _ e
        have hb := nI b o e1
        exact keep6 b o hb ((st5.1 b o hb (kI.grow _ _ e1)).2 (.inl kb))
      · exact Nat.le_trans k₁.2 (Nat.le_trans kI.2 (Nat.le_trans st5.2 tk6'))
    refine wpAny_items_nil ?_
    refine len_list_g (X := X) (s := { s₅ with heap := h6, toks := tk6 }) ⟨_, hL6, rfl, _, rfl⟩ (by rw [hsz6, hlen5]; exact hrl) _ _ fun u7 s₇ k₇ p7 => ?_
    rw [hsz6, hlen5] at p7
    have J7 := J6.kp k₇
    obtain ⟨t5, rfl⟩ := den_int_inv p5
    have hb7 : binD .Sub (.int m) (.int (r.length : Int)) = some (.int (m - r.length)) := rfl
    refine bin_sound J7.e.live.new (X := Del1 (Add1 X It0) It0) (den_int (i := m) (t := t5)).borrow (p7.scal rfl).borrow hb7 _ _ fun u8 s₈ k₈ p8 => ?_
    have J8 := J7.kp k₈
    refine store_val hxs zN (inj _ _ hxs zN) O.hE J8 kz p8 fun s₉ J9 r9 => ?_
    refine wpAny_mono (h n K _ α _ s₉ σ' fl J9 hr) (fun f s' pst => pst.trans (R6.trans ((Rel.kp k₇).trans ((Rel.kp k₈).trans r9)))) fun _ _ e => e

end
end Mine
end

/-! S27 -/
section
open PySem PySem.W PyProof.Rows
set_option maxRecDepth 100000

namespace Mine
open PySem.Builtin.Re

/-- the machine is driven, purely -/
noncomputable def drv : Nat → Sre.M → Option Sre.M
  | 0, _ => none
  | n + 1, m => let m' := m.runFor reTurnSteps
    if m'.outcome.isSome then some m' else drv n m'

section
variable {M : Model} {A : Around} {E : Value → Shared → Prop} {s : Shared}

theorem drive_of {Q : Sre.M → Shared → Prop} : ∀ (k N : Nat) (m m' : Sre.M), drv k m = some m' → k ≤ N → Q m' s → wpAny M A (reDrive N m) Q E s
  | 0, _, _, _, h, _, _ => by cases h
  | k + 1, 0, _, _, _, h, _ => absurd h (Nat.not_succ_le_zero _)
  | k + 1, N + 1, m, m', h, hk, hQ => by
    unfold drv at h
    unfold reDrive
    dsimp only at h ⊢
    cases ho : (m.runFor reTurnSteps).outcome.isSome with
    | true =>
      rw [ho] at h
      simp only [if_true, Option.some.injEq] at h
      subst h
      simp only [if_true]
      exact wpAny_pure hQ
    | false =>
      rw [ho] at h
      simp only [Bool.false_eq_true, if_false] at h ⊢
      exact wpAny_bind (wpAny_rule (drive_of k N _ m' h (by omega) hQ))

inductive Fnd where
  | no
  | at (b e : Nat)

/-- what a driven machine found: no place, or a place; the one group's span is the place's own -/
noncomputable def fndOf (m : Sre.M) : Option Fnd := match m.outcome with
  | some .failed => some .no
  | some .matched => if m.lastmark = 1 ∧ m.marks = #[some m.start, some m.handed] ∧ m.start < m.handed then some (.at m.start m.handed) else none
  | _ => none

theorem runToEnd_no {m m' : Sre.M} {Q : Option Sre.M → Shared → Prop} (h : drv 200 m = some m') (hf : fndOf m' = some .no) (hQ : Q none s) : wpAny M A (reRunToEnd m) Q E s := by
  unfold reRunToEnd
  refine wpAny_bind (drive_of 200 (2 ^ 64) m m' h (by decide) ?_)
  refine wpAny_bind (wpAny_forIn_list _ (fun _ _ s' => s' = s) _ (fun x rest b s' hs => ?_) (fun b s' hs => ?_) _ _ rfl)
  · split
    · exact wpAny_bind (wpAny_rule (wpAny_pure hs))
    · exact wpAny_pure hs
  · subst hs
    unfold fndOf at hf
    cases ho : m'.outcome with
    | none => rw [ho] at hf; cases hf
    | some o =>
      rw [ho] at hf
      cases o with
      | failed => exact wpAny_pure hQ
      | matched =>
        simp only at hf
        split at hf <;> cases hf
      | stuck w => cases hf

theorem runToEnd_at {m m' : Sre.M} {b e : Nat} {Q : Option Sre.M → Shared → Prop} (h : drv 200 m = some m') (hf : fndOf m' = some (.at b e)) (hQ : m'.lastmark = 1 → m'.marks = #[some m'.start, some m'.handed] → m'.start = b → m'.handed = e → b < e → Q (some m') s) : wpAny M A (reRunToEnd m) Q E s := by
  unfold reRunToEnd
  refine wpAny_bind (drive_of 200 (2 ^ 64) m m' h (by decide) ?_)
  refine wpAny_bind (wpAny_forIn_list _ (fun _ _ s' => s' = s) _ (fun x rest b s' hs => ?_) (fun _ s' hs => ?_) _ _ rfl)
  · split
    · exact wpAny_bind (wpAny_rule (wpAny_pure hs))
    · exact wpAny_pure hs
  · subst hs
    unfold fndOf at hf
    cases ho : m'.outcome with
    | none => rw [ho] at hf; cases hf
    | some o =>
      rw [ho] at hf
      cases o with
      | failed => cases hf
      | matched =>
        simp only at hf
        split at hf
        · rename_i hc
          cases hf
          exact wpAny_pure (hQ hc.1 hc.2.1 rfl rfl hc.2.2)
        · cases hf
      | stuck w => cases hf

end

/-- the code of `([&~|])` -/
noncomputable def codeL : List Nat := [14, 14, 4, 1, 1, 9, 0, 64, 0, 1342177280, 0, 0, 0, 0, 0, 17, 0, 13, 11, 9, 0, 64, 0, 1342177280, 0, 0, 0, 0, 0, 17, 1, 1]

/-- the next place -/
noncomputable def srch (text : List Nat) (start : Nat) (must : Bool) : Option Fnd := match drv 200 (Sre.forSearch codeL.toArray text.toArray 1 start text.length must) with
  | some m => fndOf m
  | none => none

/-- the loop of sub, the callback laying a backslash before the place's text; what is not yet laid from done on -/
noncomputable def subL (text : List Nat) : Nat → (done start : Nat) → Bool → Option (List (List Nat))
  | 0, _, _, _ => none
  | n + 1, done, start, must => match srch text start must with
    | some .no => some (if done < text.length then [(text.take text.length).drop done] else [])
    | some (.at b e) => if text.length < e then none else (match subL text n e e (e == b) with
      | some r => some ((if done < b then [(text.take b).drop done] else []) ++ (92 :: (text.take e).drop b) :: r)
      | none => none)
    | none => none
noncomputable def subP (text : List Nat) : Option (List Nat) := match subL text 20 0 0 false with
  | some l => some l.flatten
  | none => none

end Mine
end

/-! S28 -/
section
open PySem PySem.W PyProof.Rows
set_option maxRecDepth 100000

namespace Mine
open PySem.Builtin.Re

theorem entry_subloop : entryFor table "re.Pattern.sub.loop" = some Builtin.«re.Pattern.sub.loop» := entryFor_of_tree (by kernel_rfl)
theorem plain_subloop : plainId "re.Pattern.sub.loop" = true := by decide +kernel

/-- the pattern object -/
structure Pat (h : Heap) (P : Addr) : Prop where
  obj : ∃ x t u v c k T, h.get? P = some { cls := .type "re.Pattern", data := .fields #[.str x t, .int u v, .int 1 c, .none, .none, .ref T, .int 0 k] } ∧
    ∃ items n, h.get? T = some { cls := .type "tuple", data := .seq items n } ∧ (items.map reRawOf).map (·.toNat) = codeL.toArray

theorem Pat.grow {h h' : Heap} {P} (x : Pat h P) (k : ∀ a o, h.get? a = some o → h'.get? a = some o) : Pat h' P := by
  obtain ⟨x, t, u, v, c, kk, T, e, items, n, e2, r⟩ := x
  exact ⟨x, t, u, v, c, kk, T, k _ _ e, items, n, k _ _ e2, r⟩

section
variable {prog : Program} {w : World} {A : Around} {E : Value → Shared → Prop} {s : Shared}

/-- the target told -/
noncomputable def tgt (P : Addr) (l : List Nat) (t : Tok) : ReTarget := { pattern := .ref P, string := .str ⟨l.toArray⟩ t, code := codeL.toArray, text := l.toArray, kind := 0, groups := 1, pos := 0, lim := l.toArray.size }

theorem wholeTarget {M : Model} {P : Addr} {l : List Nat} {t : Tok} {Q : ReTarget → Shared → Prop} (hp : Pat s.heap P) (hQ : Q (tgt P l t) s) : wpAny M A (reWholeTarget (.ref P) (.str ⟨l.toArray⟩ t)) Q E s := by
  obtain ⟨x, tx, u, v, c, kk, T, e, items, n, e2, r⟩ := hp
  unfold reWholeTarget
  refine wpAny_bind (wpAny_fieldsOf e rfl ?_)
  refine wpAny_bind (m := reTextOf _) (wpAny_of_eq (a := (l.toArray, 0)) (by rfl) ?_)
  dsimp only
  rw [if_neg (by simp)]
  rw [if_neg (by
    show ¬ ((reRawNat (.int 0 kk) == 1 && (0 : Nat) == 0) = true)
    rw [show reRawNat (.int 0 kk) = 0 from rfl]
    decide)]
  refine wpAny_bind (m := reNoCollectionInside _ _) (wpAny_of_eq (a := ()) (by rfl) ?_)
  refine wpAny_bind ?_
  show wpAny M A (reRawItems (.ref T)) _ _ _
  unfold reRawItems
  refine wpAny_bind (wpAny_seqItems e2 rfl ?_)
  refine wpAny_pure ?_
  show wpAny M A (pure _) _ _ _
  refine wpAny_pure ?_
  have e : ({ pattern := .ref P, string := .str ⟨l.toArray⟩ t, code := (items.map reRawOf).map (·.toNat), text := l.toArray, kind := 0, groups := 1, pos := 0, lim := l.toArray.size } : ReTarget) = tgt P l t := by
    unfold tgt; rw [r]
  rw [← e] at hQ
  exact hQ


noncomputable def Over (L : Addr) (s s' : Shared) : Prop := (∀ b o, b ≠ L → s.heap.get? b = some o → s'.heap.get? b = some o) ∧ (∃ h t, s' = { s with heap := h, toks := t }) ∧ s.toks ≤ s'.toks
theorem Over.refl {L s} : Over L s s := ⟨fun _ _ _ e => e, ⟨_, _, rfl⟩, Nat.le_refl _⟩
theorem Over.trans {L s s' s''} (a : Over L s s') (b : Over L s' s'') : Over L s s'' := by
  obtain ⟨a1, ⟨h, t, rfl⟩, a3⟩ := a
  obtain ⟨b1, ⟨h', t', rfl⟩, b3⟩ := b
  exact ⟨fun x o hx e => b1 x o hx (a1 x o hx e), ⟨_, _, rfl⟩, Nat.le_trans a3 b3⟩
theorem Over.kp {L s s'} (k : Kp s s') : Over L s s' := by
  obtain ⟨⟨h, t, rfl, g⟩, ht⟩ := k
  exact ⟨fun b o _ e => g b o e, ⟨_, _, rfl⟩, ht⟩

/-- a match object: its text, its span, the one group's span -/
noncomputable def MatchAt (h : Heap) (f P : Addr) (l : List Nat) (t : Tok) (b e : Nat) : Prop :=
  ∃ x y z T, h.get? f = some { cls := .type "re.Match", data := .fields #[.str ⟨l.toArray⟩ t, .ref P, x, y, z, .ref T] } ∧ ∃ n, h.get? T = some { cls := .type "tuple", data := .seq #[rawInt b, rawInt e, rawInt b, rawInt e] n }

theorem extract_eq (l : List Nat) (b e : Nat) : (⟨l.toArray.extract b e⟩ : Str) = ⟨((l.take e).drop b).toArray⟩ := by
  have : l.toArray.extract b e = ((l.take e).drop b).toArray := by
    apply Array.toList_inj.mp
    rw [Array.toList_extract, List.toList_toArray, List.extract_eq_take_drop, List.drop_take]
  rw [this]

theorem slice_ok {M : Model} {l : List Nat} {b e : Nat} {Q : Value → Shared → Prop} {t : Tok} {P : Addr} (hl : l.length ≤ lim) (hQ : Q (.str ⟨((l.take e).drop b).toArray⟩ s.toks) { s with toks := s.toks + 1 }) :
    wpAny M A (reSlice (tgt P l t).text (tgt P l t).kind b e) Q E s := by
  show wpAny M A (mkStr ⟨l.toArray.extract b e⟩) Q E s
  rw [extract_eq]
  refine wpAny_mkStr hQ ?_
  rw [str_len, ← lim_eq]
  have h1 := List.length_drop (i := b) (l := l.take e)
  have h3 : (l.take e).length ≤ l.length := by rw [List.length_take]; exact Nat.min_le_right _ _
  omega

theorem newMatch_ok {P : Addr} {l : List Nat} {t : Tok} {m : Sre.M} {b e : Nat} {Q : Value → Shared → Prop} (h1 : m.lastmark = 1) (h2 : m.marks = #[some m.start, some m.handed]) (h3 : m.start = b) (h4 : m.handed = e) (h5 : b ≤ e)
    (hQ : ∀ h', (∀ a o, s.heap.get? a = some o → h'.get? a = some o) → MatchAt h' (s.heap.objs.size + 1) P l t b e → Q (.ref (s.heap.objs.size + 1)) { s with heap := h' }) :
    wpAny (model prog w) A (reNewMatch (.ref P) (.str ⟨l.toArray⟩ t) 1 0 (tgt P l t).lim m) Q E s := by
  subst h3; subst h4
  unfold reNewMatch
  dsimp only
  have hlt : ¬ m.handed < m.start := Nat.not_lt.mpr h5
  rw [h1, h2]
  rw [if_neg (by
    show ¬ (((decide _ && decide (m.handed < m.start)) || false) = true)
    simp [hlt])]
  simp only [newTuple, newFields]
  refine wpAny_bind (wpAny_newObj_type ?_ (by show sizeOk (.seq #[rawInt m.start, rawInt m.handed, rawInt m.start, rawInt m.handed]); size_fits))
  refine wpAny_newObj_type ?_ (by size_fits)
  have e1 : (s.heap.push { cls := .type "tuple", data := .seq #[rawInt m.start, rawInt m.handed, rawInt m.start, rawInt m.handed] }).objs.size = s.heap.objs.size + 1 := Heap.size_push ..
  have := hQ ((s.heap.push { cls := .type "tuple", data := .seq #[rawInt m.start, rawInt m.handed, rawInt m.start, rawInt m.handed] }).push { cls := .type "re.Match", data := .fields #[.str ⟨l.toArray⟩ t, .ref P, rawInt 0, rawInt (tgt P l t).lim, rawInt m.lastindex, .ref s.heap.objs.size] })
    (fun a o e => Heap.get?_push_of_some _ (Heap.get?_push_of_some _ e)) ⟨_, _, _, s.heap.objs.size, by rw [← e1]; exact Heap.get?_push_size _ rfl, _, Heap.get?_push_of_some _ (Heap.get?_push_size _ rfl)⟩
  rw [← e1] at this
  exact this

end
end Mine
end

/-! S29 -/
section
open PySem PySem.W PyProof.Rows
set_option maxRecDepth 100000

namespace Mine
open PySem.Builtin.Re

section
variable {prog : Program} {w : World} {A : Around} {E : Value → Shared → Prop} {s : Shared}

theorem push_str {M : Model} {L : Addr} {vs : Array Value} {acc : List (List Nat)} {x : List Nat} {t : Tok} {Q : Unit → Shared → Prop} (hl : s.heap.PlainList L vs) (q : StrsAre vs.toList (acc.map fun l => (⟨l.toArray⟩ : Str))) (hsz : acc.length ≤ 1000)
    (hQ : ∀ h' vs', h'.PlainList L vs' → StrsAre vs'.toList ((acc ++ [x]).map fun l => (⟨l.toArray⟩ : Str)) → Heap.SameBut L s.heap h' → Q () { s with heap := h' }) :
    wpAny M A (updateSeq L (·.push (.str ⟨x.toArray⟩ t))) Q E s := by
  obtain ⟨n, e⟩ := hl
  have hs : vs.size ≤ sizeLine := by
    have := q.length
    rw [Array.length_toList, List.length_map] at this
    rw [this, sizeLine_eq]; omega
  refine wpAny_updateSeq e rfl (hQ _ (vs.push (.str ⟨x.toArray⟩ t)) ⟨n + 1, ?_⟩ ?_ (Heap.SameBut.update ..)) (hz := hs) (_hz' := by rw [Array.size_push]; omega)
  · rw [Heap.get?_update_self _ e (by rw [Obj.mapSeq_push_plain]; rfl), Obj.mapSeq_push_plain]
  · rw [Array.toList_push, List.map_append]
    have : ∀ {vs : List Value} {ts : List Str}, StrsAre vs ts → StrsAre (vs ++ [.str ⟨x.toArray⟩ t]) (ts ++ [⟨x.toArray⟩]) := by
      intro vs ts h
      induction h with
      | nil => exact .cons _ _ .nil
      | cons y u _ ih => exact .cons y u ih
    exact this q

theorem strs_den {h : Heap} {X : Addr → Prop} : ∀ {vs : List Value} {ls : List (List Nat)}, StrsAre vs (ls.map fun l => (⟨l.toArray⟩ : Str)) → DenL h X (ls.map D.str) vs
  | vs, [], q => by cases q; exact .nil
  | vs, l :: r, q => by
    cases q with
    | cons x u q => exact .cons den_str (strs_den q)
theorem allStr_map : ∀ ls : List (List Nat), allStr (ls.map D.str) = some ls
  | [] => rfl
  | l :: r => by
    show (match allStr (r.map D.str) with | some x => some (l :: x) | none => none) = _
    rw [allStr_map r]
theorem jn_nil : ∀ ls : List (List Nat), jn [] ls = ls.flatten
  | [] => rfl
  | [x] => by simp [jn]
  | x :: y :: r => by
    have := jn_nil (y :: r)
    show x ++ [] ++ jn [] (y :: r) = _
    rw [this]; simp

theorem sub_loop {P L : Addr} {l : List Nat} {t : Tok} {repl : Value} {R : Result → Shared → Prop} {s0 : Shared} (hl : l.length ≤ 1000) (hp : Pat s0.heap P)
    (hcb : ∀ (s₁ : Shared) (f : Addr) (b e : Nat), Over L s0 s₁ → b < e → e ≤ l.length → MatchAt s₁.heap f P l t b e → ∀ (Q : Value → Shared → Prop) (E : Value → Shared → Prop), (∀ t' s₂, Kp s₁ s₂ → Q (.str ⟨(92 :: (l.take e).drop b).toArray⟩ t') s₂) → wpAny (model prog w) A.in1 (call repl [.ref f]) Q E s₁)
    (hLP : ∀ o, s0.heap.get? L = some o → o.cls = .type "list") {res : List (List Nat)} (hres : (res.map List.length).sum + res.length * 0 ≤ lim) (hrl : res.length ≤ 900)
    (hR : ∀ t' s', Over L s0 s' → R (.ok (.ret (.str ⟨res.flatten.toArray⟩ t'))) s') :
    ∀ (n done start : Nat) (must : Bool) (k : Int) (acc l' : List (List Nat)) (vs : Array Value) (s₁ : Shared), subL l n done start must = some l' → res = acc ++ l' → Over L s0 s₁ → s₁.heap.PlainList L vs → StrsAre vs.toList (acc.map fun l => (⟨l.toArray⟩ : Str)) →
      codeAny (model prog w) A (.builtin "re.Pattern.sub.loop" ⟨[.ref P, .str ⟨l.toArray⟩ t, repl, rawInt 1, rawInt 0, rawInt k, rawInt done, rawInt start, .bool must, .ref L, .bool false], []⟩) R s₁ := by
  intro n
  induction n with
  | zero => intro done start must k acc l' vs s₁ h; cases h
  | succ n ih =>
    intro done start must k acc l' vs s₁ h hacc hov hpl hst
    have hPL : ∀ a, (∃ o, s0.heap.get? a = some o ∧ o.cls ≠ .type "list") → a ≠ L := fun a ⟨o, e, hc⟩ h => hc (hLP o (h ▸ e))
    have hp1 : Pat s₁.heap P := by
      obtain ⟨x, tx, u, v, c, kk, T, e, items, m, e2, r⟩ := hp
      exact ⟨x, tx, u, v, c, kk, T, hov.1 _ _ (hPL _ ⟨_, e, by simp⟩) e, items, m, hov.1 _ _ (hPL _ ⟨_, e2, by simp⟩) e2, r⟩
    refine codeAny_builtin entry_subloop ?_
    rw [Around.under_plainId plain_subloop _]
    unfold Builtin.«re.Pattern.sub.loop»
    refine wpAny_bind (m := reWholeTarget _ _) (wholeTarget hp1 ?_)
    show wpAny _ _ (if ((1 : Int) == 0) = true then _ else _) _ _ _
    rw [if_neg (by decide)]
    dsimp only
    refine wpAny_bind ?_
    rw [if_neg (by simp)]
    show wpAny _ _ (reRunToEnd (Sre.forSearch codeL.toArray l.toArray 1 ((start : Int)).toNat l.toArray.size must)) _ _ _
    rw [Int.toNat_natCast, List.size_toArray]
    unfold subL at h
    cases hs : srch l start must with
    | none => rw [hs] at h; cases h
    | some fd =>
      rw [hs] at h
      unfold srch at hs
      cases hd : drv 200 (Sre.forSearch codeL.toArray l.toArray 1 start l.length must) with
      | none => rw [hd] at hs; cases hs
      | some m =>
        rw [hd] at hs
        simp only at hs
        cases fd with
        | no =>
          simp only [Option.some.injEq] at h
          refine runToEnd_no hd hs ?_
          dsimp only
          have hlim : (tgt P l t).lim = l.length := by unfold tgt; simp
          rw [Int.toNat_natCast, hlim]
          have hl' : l.length ≤ lim := by rw [lim_eq, sizeLine_eq]; omega
          have hal : acc.length ≤ 1000 := by
            have := congrArg List.length hacc
            rw [List.length_append] at this
            omega
          have tail : ∀ (vs₂ : Array Value) (s₂ : Shared), Over L s0 s₂ → s₂.heap.PlainList L vs₂ → StrsAre vs₂.toList (res.map fun l => (⟨l.toArray⟩ : Str)) →
              (∀ (c₂ : Nat), s₂.heap.get? L = some { cls := .type "list", data := .seq vs₂ c₂ } → vs₂.isEmpty = true → ∀ s₃ t', Kp s₂ s₃ → R (.ok (.ret (.str ⟨([] : List Nat).toArray⟩ t'))) s₃) ∧
              (vs₂.isEmpty = false → ∀ s₃ u, Kp s₂ s₃ → ∀ (Q : Value → Shared → Prop) (E : Value → Shared → Prop), (∀ t' s₄, Kp s₃ s₄ → R (.ok (.ret (.str ⟨res.flatten.toArray⟩ t'))) s₄ → Q (.str ⟨res.flatten.toArray⟩ t') s₄) → wpAny (model prog w) A.in1 (call (.builtin "str.join") [.str ⟨([] : List Nat).toArray⟩ u, .ref L]) Q E s₃) := by
            intro vs₂ s₂ ho hp2 hst2
            refine ⟨fun c₂ _ he s₃ t' k => ?_, fun he s₃ u k Q E hq => ?_⟩
            · have h0 : res = [] := by
                have h1 := hst2.length
                rw [Array.isEmpty_iff] at he
                rw [he] at h1
                simpa using h1.symm
              have := hR t' s₃ (ho.trans (.kp k))
              rw [h0] at this
              exact this
            · have hb : DenB s₃.heap (fun _ => False) (.list (res.map D.str)) (.ref L) := ⟨L, vs₂, rfl, (hp2.at (k.grow _)).isList, strs_den hst2⟩
              have hj : joinD [] (.list (res.map D.str)) = some (.str res.flatten) := by
                unfold joinD
                dsimp only
                rw [allStr_map]
                simp only [List.length_nil]
                rw [if_pos hres, jn_nil]
              refine join_sound hb hj Q E fun v s₄ k4 p4 => ?_
              obtain ⟨t', rfl⟩ := den_str_inv p4
              exact hq t' s₄ k4 (hR t' s₄ (ho.trans ((Over.kp k).trans (.kp k4))))
          by_cases hdn : done < l.length
          · rw [if_pos hdn] at h ⊢
            refine wpAny_bind (slice_ok hl' ?_)
            have k1 := kp_toks s₁ 1
            refine wpAny_bind (push_str (s := { s₁ with toks := s₁.toks + 1 }) hpl hst hal fun h' vs' hpl' hst' hs' => ?_)
            have hov' : Over L s0 { s₁ with heap := h', toks := s₁.toks + 1 } := hov.trans ⟨fun b o hb e => hs'.extBut b o hb e, ⟨h', _, rfl⟩, Nat.le_succ _⟩
            rw [← h] at hacc
            rw [← hacc] at hst'
            obtain ⟨T1, T2⟩ := tail vs' _ hov' hpl' hst'
            refine wpAny_bind (slice_ok hl' ?_)
            simp only [List.take_zero, List.drop_nil]
            obtain ⟨c', e'⟩ := hpl'
            refine wpAny_bind (wpAny_seqItems e' rfl ?_)
            dsimp only [Option.getD_some]
            by_cases he : vs'.isEmpty = true
            · rw [if_pos he]
              exact wpAny_bind (wpAny_pure (wpAny_pure (T1 c' e' he _ _ (kp_toks _ 1))))
            · rw [if_neg he]
              refine wpAny_bind ?_
              show wpAny _ _ (call (.builtin "str.join") _) _ _ _
              exact T2 (Bool.eq_false_iff.mpr he) _ _ (kp_toks _ 1) _ _ fun t' s₄ _ r => wpAny_pure r
          · rw [if_neg hdn] at h ⊢
            rw [← h, List.append_nil] at hacc
            rw [← hacc] at hst
            obtain ⟨T1, T2⟩ := tail vs _ hov hpl hst
            refine wpAny_bind (slice_ok hl' ?_)
            simp only [List.take_zero, List.drop_nil]
            obtain ⟨c', e'⟩ := hpl
            refine wpAny_bind (wpAny_seqItems e' rfl ?_)
            dsimp only [Option.getD_some]
            by_cases he : vs.isEmpty = true
            · rw [if_pos he]
              exact wpAny_bind (wpAny_pure (wpAny_pure (T1 c' e' he _ _ (kp_toks _ 1))))
            · rw [if_neg he]
              refine wpAny_bind ?_
              show wpAny _ _ (call (.builtin "str.join") _) _ _ _
              exact T2 (Bool.eq_false_iff.mpr he) _ _ (kp_toks _ 1) _ _ fun t' s₄ _ r => wpAny_pure r
        | «at» b e =>
          simp only at h
          split at h
          · cases h
          rename_i hle
          cases hr2 : subL l n e e (e == b) with
          | none => rw [hr2] at h; cases h
          | some rr =>
            rw [hr2] at h
            simp only [Option.some.injEq] at h
            refine runToEnd_at hd hs fun h1 h2 h3 h4 h5 => ?_
            dsimp only
            rw [Int.toNat_natCast]
            have hl' : l.length ≤ lim := by rw [lim_eq, sizeLine_eq]; omega
            have hlen : acc.length + ((if done < b then [(l.take b).drop done] else []) ++ (92 :: (l.take e).drop b) :: rr).length ≤ 900 := by
              rw [h, ← List.length_append, ← hacc]; exact hrl
            -- from the match on
            have rest : ∀ (acc₂ : List (List Nat)) (vs₂ : Array Value) (s₂ : Shared), Over L s0 s₂ → s₂.heap.PlainList L vs₂ → StrsAre vs₂.toList (acc₂.map fun l => (⟨l.toArray⟩ : Str)) → acc₂.length ≤ 900 → res = acc₂ ++ (92 :: (l.take e).drop b) :: rr →
                ∀ (f : Addr) (s₃ : Shared), Kp s₂ s₃ → MatchAt s₃.heap f P l t b e → ∀ (Q : Value → Shared → Prop), (∀ t' s₄, (∀ (Q' : Unit → Shared → Prop), (∀ s₅, codeAny (model prog w) A (.builtin "re.Pattern.sub.loop" ⟨[.ref P, .str ⟨l.toArray⟩ t, repl, rawInt 1, rawInt 0, rawInt (k + 1), rawInt m.handed, rawInt m.handed, .bool (m.handed == b), .ref L, .bool false], []⟩) R s₅ → Q' () s₅) →
                  wpAny (model prog w) A.in1 (updateSeq L (·.push (.str ⟨(92 :: (l.take e).drop b).toArray⟩ t'))) Q' (fun e s' => R (.error e) s') s₄) → Q (.str ⟨(92 :: (l.take e).drop b).toArray⟩ t') s₄) →
                wpAny (model prog w) A.in1 (call repl [.ref f]) Q (fun e s' => R (.error e) s') s₃ := by
              intro acc₂ vs₂ s₂ ho hp2 hst2 hl2 hacc2 f s₃ k3 hm Q hQ
              refine hcb s₃ f b e (ho.trans (.kp k3)) h5 (Nat.le_of_not_lt hle) hm _ _ fun t' s₄ k4 => hQ t' s₄ fun Q' hQ' => ?_
              refine push_str (hp2.at fun o e => k4.grow _ _ (k3.grow _ _ e)) hst2 (by omega) fun h' vs' hpl' hst' hs' => hQ' _ ?_
              rw [h4]
              exact ih e e (e == b) (k + 1) _ rr vs' _ hr2 (by rw [hacc2]; simp) (ho.trans ((Over.kp k3).trans ((Over.kp k4).trans ⟨fun b o hb e => hs'.extBut b o hb e, ⟨h', _, rfl⟩, Nat.le_refl _⟩))) hpl' hst'
            rw [h3]
            by_cases hdn : done < b
            · rw [if_pos hdn] at h hlen ⊢
              refine wpAny_bind (slice_ok hl' ?_)
              refine wpAny_bind (push_str (s := { s₁ with toks := s₁.toks + 1 }) hpl hst (by omega) fun h' vs' hpl' hst' hs' => ?_)
              have hov' : Over L s0 { s₁ with heap := h', toks := s₁.toks + 1 } := hov.trans ⟨fun b o hb e => hs'.extBut b o hb e, ⟨h', _, rfl⟩, Nat.le_succ _⟩
              rw [if_neg (by decide)]
              refine wpAny_bind (m := reNewMatch _ _ _ _ _ _) (newMatch_ok h1 h2 h3 h4 (Nat.le_of_lt h5) fun h₃ g₃ hm => ?_)
              refine wpAny_bind (wpAny_holding ?_)
              rw [if_pos (by decide)]
              refine rest _ vs' _ hov' hpl' hst' (by rw [List.length_append]; simp at hlen ⊢; omega) (by rw [hacc, ← h]; simp) _ _ ⟨⟨h₃, _, rfl, g₃⟩, Nat.le_refl _⟩ hm _ fun t' s₄ hnext => ?_
              rw [if_pos (show (Value.str _ _ != Value.none) = true from rfl)]
              exact wpAny_bind (hnext _ fun s₅ hc => wpAny_pure ⟨plainId_quiet plain_subloop _, hc⟩)
            · rw [if_neg hdn] at h hlen ⊢
              rw [if_neg (by decide)]
              refine wpAny_bind (m := reNewMatch _ _ _ _ _ _) (newMatch_ok h1 h2 h3 h4 (Nat.le_of_lt h5) fun h₃ g₃ hm => ?_)
              refine wpAny_bind (wpAny_holding ?_)
              rw [if_pos (by decide)]
              refine rest _ vs _ hov hpl hst (by simp at hlen; omega) (by rw [hacc, ← h]; simp) _ _ ⟨⟨h₃, _, rfl, g₃⟩, Nat.le_refl _⟩ hm _ fun t' s₄ hnext => ?_
              rw [if_pos (show (Value.str _ _ != Value.none) = true from rfl)]
              exact wpAny_bind (hnext _ fun s₅ hc => wpAny_pure ⟨plainId_quiet plain_subloop _, hc⟩)

end
end Mine
end

/-! S30 -/
section
open PySem PySem.W PyProof.Rows
set_option maxRecDepth 100000

namespace Mine

theorem among_snoc {p q : Pos} {c : Value} (l : List Value) (h : TriplesOk l) : codeAmong q (l ++ [rawInt p.line, rawInt p.col, c]) = match codeAmong q l with | some x => some x | none => if ((p.line : Int) == q.line && (p.col : Int) == q.col) = true then some c else none := by
  fun_induction TriplesOk l with
  | case1 => simp [codeAmong, rawInt]
  | case2 a _ b _ x rest ih =>
    simp only [List.cons_append, codeAmong]
    split
    · rfl
    · exact ih h
  | case3 => exact h.elim

theorem triples_snoc {p : Pos} {c : Value} (l : List Value) (h : TriplesOk l) : TriplesOk (l ++ [rawInt p.line, rawInt p.col, c]) := by
  fun_induction TriplesOk l with
  | case1 => simp [TriplesOk, rawInt]
  | case2 a _ b _ x rest ih => exact ih h
  | case3 => exact h.elim

/-- the code table holds for these places only code objects of these names -/
noncomputable def Tgood (Cs : List (Pos × Str)) (h : Heap) (X : Addr → Prop) (ps : Array Value) : Prop :=
  ∀ pq ∈ Cs, ∀ cv, codeAmong pq.1 ps.toList = some cv → ∃ c', cv = .ref c' ∧ ¬ X c' ∧ h.CodeRec (.ref c') pq.2

theorem Tgood.mono {Cs} {h h' : Heap} {X X' : Addr → Prop} {ps : Array Value} (m : Mono h X h' X') (t : Tgood Cs h X ps) : Tgood Cs h' X' ps := by
  intro pq hp cv hc
  obtain ⟨c', e, n, c2, oc, vs, tq, e2, hoc, r⟩ := t pq hp cv hc
  cases e2
  obtain ⟨z1, z2⟩ := m c' oc hoc n
  exact ⟨c', e, z2, c', oc, vs, tq, rfl, z1, r⟩

section
variable {prog : Program} {w : World} {A : Around} {mg mb : Str → Option Value} {hG : Heap} {env : Env} {cx : Cx} {nm : Nat → Str} {N : Nat} {Φ : Str → List D → Option D}

/-- the code table is changed -/
theorem SInv.tab {K X α σ s} {h' : Heap} {t : Nat} {ps : Array Value} (I : SInv mg mb hG env nm N cx K X α σ s) (hY : ∀ a, cx.Y a ↔ a = tabA) (hs : ∀ b o, b ≠ tabA → s.heap.get? b = some o → h'.get? b = some o) (ht : s.toks ≤ t)
    (htab : h'.get? tabA = some (tabObj ps)) (htr : TriplesOk ps.toList) (hT : cx.T h' X ps) : SInv mg mb hG env nm N cx K X α σ { s with heap := h', toks := t } ∧ Rel K X s X { s with heap := h', toks := t } := by
  have yT : cx.Y tabA := (hY _).mpr rfl
  obtain ⟨hXa, hKa, _⟩ := I.ysub _ yT
  have fa : env.locals ≠ tabA := fun h => I.fY (h ▸ yT)
  have ca : ∀ n c, env.kindOf n = some .cell → env.cells.lookup n = some c → c ≠ tabA := by
    intro n c hk hc h
    obtain ⟨c', h1, _, _, h4, _⟩ := I.cell n hk
    rw [hc] at h1
    cases h1
    exact h4 (h ▸ yT)
  have lk : ∀ n v, Look env s.heap n v → Look env h' n v := by
    rintro n v (⟨k, m, hn, e⟩ | ⟨k, c, hl, ⟨o, ho, hd⟩⟩)
    · exact .inl ⟨k, m, hn.at' fun o e => hs _ o fa e, e⟩
    · exact .inr ⟨k, c, hl, o, hs _ o (ca n c k hl) ho, hd⟩
  have mono : Mono s.heap X h' X := fun b o e n => ⟨hs b o (fun h => n (h ▸ hXa)) e, n⟩
  have gl : ∀ b, Gl hG b → b ≠ tabA := by
    rintro b (rfl | rfl | rfl | ⟨h, _⟩)
    · decide
    · decide
    · decide
    · exact h
  refine ⟨⟨⟨I.e.bas.at fun b o hb e => hs b o (gl b hb) e, Nat.le_trans I.e.tok ht, fun b hb => ?_, fun y => ?_⟩, I.sub, fun b hb => ?_, cx.hR _ _ _ I.rest, I.fX, I.fK, I.fY, ?_, fun n hn => ?_, I.own, I.dom, I.glob⟩, mono, fun b o kb e => hs b o (fun h => hKa (h ▸ kb)) e, ht⟩
  · by_cases hba : b = tabA
    · subst hba; exact ⟨_, htab⟩
    · obtain ⟨o, e⟩ := I.e.live b hb
      exact ⟨o, hs b o hba e⟩
  · exact (I.e.slots y).tick hXa hs (fun _ h => h) (fun _ h _ => h) (fun v l => lk _ v l) fun hm h => (I.own y hm).1.y (h ▸ yT)
  · have := (hY b).mp hb
    subst this
    exact ⟨hXa, hKa, ps, htab, htr, hT⟩
  · obtain ⟨m, hm⟩ := I.fns
    exact ⟨m, hm.at' fun o e => hs _ o fa e⟩
  · obtain ⟨c, h1, h2, h3, h4, h5, ⟨v, o, ho, hd⟩, h7⟩ := I.cell n hn
    exact ⟨c, h1, h2, h3, h4, h5, ⟨v, o, hs c o (ca n c hn h1) ho, hd⟩, h7⟩

/-- what the ground holds for making functions in a def -/
structure LamG (mg : Str → Option Value) (hG : Heap) (c : Addr) : Prop where
  code : CodeHd hG c tabA
  bm : ∃ bm o, mg "__builtins__" = some (.ref bm) ∧ bm ≠ builtinsNs ∧ bm ≠ mainGlobals ∧ bm ≠ tabA ∧ hG.get? bm = some o ∧ o.cls = .type "module" ∧ o.dict = some builtinsNs ∧ o.data = .plain

theorem LamG.codeAt {c : Addr} {h : Heap} (g : LamG mg hG c) (B : Bas mg mb hG h) : CodeHd h c tabA := by
  obtain ⟨o, vs, file, tf, flags, tg, inF, text, tt, e, r⟩ := g.code
  exact ⟨o, vs, file, tf, flags, tg, inF, text, tt, B.over c o r.2.2.2.2.2.2.2.2 e, r⟩
theorem LamG.bmAt {c : Addr} {h : Heap} (g : LamG mg hG c) (B : Bas mg mb hG h) : h.BuiltinsAt mg tabA := by
  obtain ⟨bm, o, h1, h2, h3, h4, h5, r⟩ := g.bm
  exact ⟨bm, o, h1, h2, h3, h4, B.over bm o h4 h5, r⟩

theorem lam_make {K X α σ s} {c : Addr} {Cs : List (Pos × Str)} {name qual : Str} {params : Arguments} {body : Expr} {scope : Scope} {pos : Pos} {firstLine : Nat} {E : Value → Shared → Prop} {Q : Value → Shared → Prop} (J : SInv mg mb hG env nm N cx K X α σ s) (hY : ∀ a, cx.Y a ↔ a = tabA)
    (hT : cx.T = Tgood Cs) (hmem : (pos, qual) ∈ Cs) (hd : ∀ pq ∈ Cs, pq.1.line = pos.line → pq.1.col = pos.col → pq.2 = qual) (g : LamG mg hG c) (hE : EnvOk env) (hcode : env.code = .ref c) (hcl : closureFor scope env = pure [])
    (hQ : ∀ f s' pm ctv c', SInv mg mb hG env nm N cx K X α σ s' → Rel K X s X s' → s'.heap.get? f = some (kla_obj name qual params body scope [] pm c' ctv) → ¬ X f → s'.heap.CodeRec (.ref c') qual → Q (.ref f) s') :
    wpAny (model prog w) A (makeFunction name qual params (.expr body) scope env [] [] [] pos firstLine) Q E s := by
  have B := J.e.bas
  have yT : cx.Y tabA := (hY _).mpr rfl
  obtain ⟨hXa, hKa, ps, htab, htr, hTg⟩ := J.ysub _ yT
  have live : ∀ a, s.heap.objs.size ≤ a → ¬ X a := fun a ha hx => by
    obtain ⟨o, e⟩ := J.e.live a hx
    exact absurd (Heap.lt_size e) (Nat.not_lt.mpr ha)
  cases hf : codeAmong pos ps.toList with
  | none =>
    refine wpAny_with_toks (Nat.le_refl _) (kla_makeFunction (mg := mg) hcl hE.2.1 B.g hcode (g.codeAt B) htab htr hf (by decide) (g.bmAt B) fun c' ctv h' tk hx hge hlt hrec htb htk => ?_)
    have hsz : s.heap.objs.size ≤ h'.objs.size := Nat.le_trans hge (Nat.le_of_lt hlt)
    have hs : ∀ b o, b ≠ tabA → s.heap.get? b = some o → (h'.push (kla_obj name qual params body scope [] ((mg "__name__").getD .none) c' ctv)).get? b = some o := fun b o hb e => Heap.get?_push_of_some _ (hx b o hb e)
    have htb2 : (h'.push (kla_obj name qual params body scope [] ((mg "__name__").getD .none) c' ctv)).get? tabA = some (tabObj (ps ++ #[rawInt pos.line, rawInt pos.col, .ref c'])) := Heap.get?_push_of_some _ htb
    have hcr : (h'.push (kla_obj name qual params body scope [] ((mg "__name__").getD .none) c' ctv)).CodeRec (.ref c') qual := by
      obtain ⟨c2, oc, vs, tq, e2, hoc, r⟩ := hrec
      cases e2
      exact ⟨c', oc, vs, tq, rfl, Heap.get?_push_of_some _ hoc, r⟩
    have htl : (ps ++ #[rawInt pos.line, rawInt pos.col, .ref c']).toList = ps.toList ++ [rawInt pos.line, rawInt pos.col, .ref c'] := by simp
    obtain ⟨J', R'⟩ := J.tab hY hs htk htb2 (by rw [htl]; exact triples_snoc _ htr) (by
      rw [hT] at hTg ⊢
      intro pq hp cv hc
      rw [htl, among_snoc _ htr] at hc
      have mono : Mono s.heap X (h'.push (kla_obj name qual params body scope [] ((mg "__name__").getD .none) c' ctv)) X := fun b o e n => ⟨hs b o (fun h => n (h ▸ hXa)) e, n⟩
      cases ha : codeAmong pq.1 ps.toList with
      | some x =>
        rw [ha] at hc
        cases hc
        exact (hTg.mono mono) pq hp _ ha
      | none =>
        rw [ha] at hc
        simp only at hc
        split at hc
        · rename_i hpos
          cases hc
          simp only [Bool.and_eq_true, beq_iff_eq] at hpos
          have := hd pq hp (by omega) (by omega)
          exact ⟨c', rfl, live c' hge, this ▸ hcr⟩
        · cases hc)
    exact hQ h'.objs.size _ _ _ c' J' R' (Heap.get?_push_size _ rfl) (live _ hsz) hcr
  | some cv =>
    rw [hT] at hTg
    obtain ⟨c', rfl, hXc, hcr⟩ := hTg _ hmem cv hf
    refine wpAny_with_toks (Nat.le_refl _) (kla_makeFunctionHit (mg := mg) hcl hE.2.1 B.g hcode (g.codeAt B) htab htr hf (g.bmAt B) fun ctv h' tk hk hsz htk => ?_)
    have k : Kp s { s with heap := h'.push { cls := .type "function", data := .func (kla_fn name qual params body scope [] ((mg "__name__").getD .none) (.ref c') ctv) }, toks := tk } := ⟨⟨_, _, rfl, fun b o e => Heap.get?_push_of_some _ (hk b o e)⟩, htk⟩
    have hcr2 : ({ s with heap := h'.push { cls := .type "function", data := .func (kla_fn name qual params body scope [] ((mg "__name__").getD .none) (.ref c') ctv) }, toks := tk } : Shared).heap.CodeRec (.ref c') qual := by
      obtain ⟨c2, oc, vs, tq, e2, hoc, r⟩ := hcr
      cases e2
      exact ⟨c', oc, vs, tq, rfl, k.grow _ _ hoc, r⟩
    exact hQ h'.objs.size _ _ ctv c' (J.kp k) (Rel.kp k) (Heap.get?_push_size _ rfl) (live _ hsz) hcr2

end
end Mine
end

/-! S31 -/
section
open PySem PySem.W PyProof.Rows
set_option maxRecDepth 100000

namespace Mine
open PySem.Builtin.Re

theorem slot_group : Slot "re.Match" "group" "re.Match.group" :=
  .of (owner := "re.Match") (n := "group") (by rw [typeLookup_type, builtinLookup_eq_fast]; kernel_rfl) (by decide +kernel) (by decide +kernel) (by decide +kernel)
    (by first | exact .inl (by decide +kernel) | exact .inr (by decide +kernel)) (by rw [isSubtype_type]; kernel_rfl)
theorem type_group : typeOf (.builtin "re.Match.group") = pure (.type "method_descriptor") := by show builtinType _ = _; rw [builtinType_eq_fast]; kernel_rfl
theorem entry_group : entryFor table "re.Match.group" = some Builtin.«re.Match.group» := entryFor_of_tree (by kernel_rfl)
theorem args_group (a b : Value) : argsOk "re.Match.group" ⟨[a, b], []⟩ := by unfold argsOk; kernel_rfl
theorem slot_sub : Slot "re.Pattern" "sub" "re.Pattern.sub" :=
  .of (owner := "re.Pattern") (n := "sub") (by rw [typeLookup_type, builtinLookup_eq_fast]; kernel_rfl) (by decide +kernel) (by decide +kernel) (by decide +kernel)
    (by first | exact .inl (by decide +kernel) | exact .inr (by decide +kernel)) (by rw [isSubtype_type]; kernel_rfl)
theorem type_sub : typeOf (.builtin "re.Pattern.sub") = pure (.type "method_descriptor") := by show builtinType _ = _; rw [builtinType_eq_fast]; kernel_rfl
theorem entry_sub : entryFor table "re.Pattern.sub" = some Builtin.«re.Pattern.sub» := entryFor_of_tree (by kernel_rfl)
theorem args_sub (a b c : Value) : argsOk "re.Pattern.sub" ⟨[a, b, c], []⟩ := by unfold argsOk; kernel_rfl

end Mine

namespace Mine
open PySem.Builtin.Re

theorem plain_match : PlainAttrs "re.Match" :=
  ⟨⟨"object.__getattribute__", by rw [typeLookup_type, builtinLookup_eq_fast]; kernel_rfl, by decide +kernel⟩, by rw [typeLookup_type, builtinLookup_eq_fast]; kernel_rfl⟩
theorem plain_pattern : PlainAttrs "re.Pattern" :=
  ⟨⟨"object.__getattribute__", by rw [typeLookup_type, builtinLookup_eq_fast]; kernel_rfl, by decide +kernel⟩, by rw [typeLookup_type, builtinLookup_eq_fast]; kernel_rfl⟩

section
variable {prog : Program} {w : World} {A : Around} {E : Value → Shared → Prop} {s : Shared}

theorem call_group {f P : Addr} {l : List Nat} {t tk : Tok} {b e : Nat} {Q : Value → Shared → Prop} (hl : l.length ≤ 1000) (hm : MatchAt s.heap f P l t b e) (hQ : Q (.str ⟨((l.take e).drop b).toArray⟩ s.toks) { s with toks := s.toks + 1 }) :
    wpAny (model prog w) A (call (.builtin "re.Match.group") [.ref f, .int 1 tk]) Q E s := by
  obtain ⟨x, y, z, T, e1, n, e2⟩ := hm
  refine wpAny_call_entry (T := "re.Match") slot_group ⟨_, e1, rfl⟩ entry_group ?_ (args_group _ _)
  unfold Builtin.«re.Match.group»
  refine wpAny_bind (wpAny_of_eq (a := ()) (by first | rfl | kernel_rfl) ?_)
  dsimp only
  unfold reFound
  refine wpAny_bind (wpAny_bind (wpAny_fieldsOf e1 rfl (wpAny_bind ?_)))
  show wpAny _ _ (reRawItems (.ref T)) _ _ _
  unfold reRawItems
  refine wpAny_bind (wpAny_seqItems e2 rfl ?_)
  refine wpAny_pure (wpAny_pure ?_)
  have hsp : Array.map reRawOf ((some #[rawInt (b : Int), rawInt (e : Int), rawInt (b : Int), rawInt (e : Int)]).getD #[]) = #[(b : Int), (e : Int), (b : Int), (e : Int)] := by simp [reRawOf, rawInt]
  rw [hsp]
  refine wpAny_bind ?_
  refine wpAny_of_eq (a := 1) (by first | rfl | kernel_rfl) ?_
  refine wpAny_bind ?_
  unfold reGroupText
  show wpAny _ _ (if (decide ((b : Int) < 0) || decide ((e : Int) < 0)) = true then pure Value.none else (do
      let x ← reTextOf (.str ⟨l.toArray⟩ t)
      match x with | (text, kind) => reSlice text kind ((b : Int)).toNat ((e : Int)).toNat)) _ _ _
  rw [if_neg (by simp)]
  refine wpAny_bind (m := reTextOf _) (wpAny_of_eq (a := (l.toArray, 0)) (by first | rfl | kernel_rfl) ?_)
  show wpAny _ _ (reSlice (tgt P l t).text (tgt P l t).kind ((b : Int)).toNat ((e : Int)).toNat) _ _ _
  rw [Int.toNat_natCast, Int.toNat_natCast]
  exact slice_ok (by rw [lim_eq, sizeLine_eq]; omega) (wpAny_pure ⟨_, rfl, hQ⟩)

/-- the callback's body -/
noncomputable def lamBody (p1 p2 p3 p4 p5 p6 p7 p8 : Pos) (k1 k2 k3 : Nat) : Expr :=
  .BinOp (.Constant (.str "\\") k1 p1) .Add (.BoolOp .Or [.Call (.Attribute (.Name (PySem.Str.ofString "_m") p2) "group" p3) [.Constant (.int 1) k2 p4] [] p5, .Constant (.str "") k3 p6] p7) p8

theorem lam_call {fn : Addr} {name qual : Str} {params : Arguments} {scope : Scope} {pm ctv : Value} {c' : Addr} {p1 p2 p3 p4 p5 p6 p7 p8 : Pos} {k1 k2 k3 : Nat} {f P : Addr} {l : List Nat} {t : Tok} {b e : Nat} {Q : Value → Shared → Prop}
    (hroom : A.depth < recursionLimit) (hlim : s.heap.NoLimit) (hline : (p3.endLine == p5.line) = true) (ho : s.heap.get? fn = some (kla_obj name qual params (lamBody p1 p2 p3 p4 p5 p6 p7 p8 k1 k2 k3) scope [] pm c' ctv)) (hcr : s.heap.CodeRec (.ref c') qual)
    (hbind : ∀ v, bindArgs (kla_fn name qual params (lamBody p1 p2 p3 p4 p5 p6 p7 p8 k1 k2 k3) scope [] pm (.ref c') ctv) ⟨[v], []⟩ = pure [(PySem.Str.ofString "_m", v)])
    (hsc : scope = { kind := .function, names := [(PySem.Str.ofString "_m", .local)], isGenerator := false, isCoroutine := false, more := scope.more }) (hl : l.length ≤ 1000) (hbe : b < e) (hel : e ≤ l.length) (hm : MatchAt s.heap f P l t b e)
    (hQ : ∀ t' s₂, Kp s s₂ → Q (.str ⟨(92 :: (l.take e).drop b).toArray⟩ t') s₂) : wpAny (model prog w) A (call (.ref fn) [.ref f]) Q E s := by
  have hk : scope.kind = .function := by rw [hsc]
  have hn : scope.names = [(PySem.Str.ofString "_m", NameKind.local)] := by rw [hsc]
  refine wpAny_call (kla_callFunE hroom ho rfl (by rw [hsc]) (by rw [hsc]) rfl hcr ?_)
  rw [hbind]
  refine wpAny_pure (wpAny_with_toks (Nat.le_refl _) (wpAny_newFunctionEnv (by rw [hn]; intro x hx; simp at hx; subst hx; decide) (by rw [hn]; intro x hx; simp at hx; subst hx; rfl) (fun h' hns hsb ht => ⟨hlim.fresh _ hsb, kla_codeExpr (wpAny_noRaise ?_)⟩) hk))
  generalize hA' : A.deeper _ = A'
  generalize henv : newEnv _ _ _ _ _ _ _ _ _ = env
  have hL : env.locals = s.heap.objs.size := by rw [← henv]; rfl
  have hkd : env.kindOf (PySem.Str.ofString "_m") = some .local := by
    rw [← henv]
    show scope.names.lookup _ = _
    rw [hn]; rfl
  have hkf : env.scope.kind = .function := by rw [← henv]; exact hk
  have g : Grow s.heap h' := fun b o e => hsb.extBut b o (Nat.ne_of_lt (Heap.lt_size e)) (Heap.get?_push_of_some _ e)
  have hns' : h'.Ns env.locals (fun x => List.lookup x [(PySem.Str.ofString "_m", Value.ref f)].reverse) := by rw [hL]; exact hns
  have hm' : MatchAt h' f P l t b e := by
    obtain ⟨x, y, z, T, e1, n, e2⟩ := hm
    exact ⟨x, y, z, T, g _ _ e1, n, g _ _ e2⟩
  unfold lamBody
  refine wpAny_BinOp (wpAny_Constant_str (wpAny_Or2 ?_))
  refine wpAny_Call_method_lateS rfl (few_ok (by simp [plainE]) (by simp)) hline (wpAny_Name (wpAny_loadName_local hkf hkd hns' (by rfl) ?_) (by decide +kernel))
  obtain ⟨x, y, z, T, e1, n, e2⟩ := id hm'
  refine ⟨"re.Match", "re.Match.group", plain_match, slot_group, type_group, ⟨_, e1, rfl⟩, fun a ha => by cases ha; exact ⟨_, e1, rfl⟩, ?_⟩
  refine callWith_b (by simp [plainE]) (wpAny_items_cons (wpAny_Constant_int (wpAny_items_nil ?_)) (starEach_plain rfl))
  refine call_group hl hm' ?_
  have hlen : ((l.take e).drop b).length = e - b := by rw [List.length_drop, List.length_take, Nat.min_eq_left hel]
  have htr : truD (.str ((l.take e).drop b)) = some true := by
    unfold truD
    dsimp only
    rw [if_pos (by rw [hlen, lim_eq, sizeLine_eq]; omega)]
    cases hd : (l.take e).drop b with
    | nil => rw [hd] at hlen; simp at hlen; omega
    | cons a r => rfl
  refine tru_sound (X := fun _ => False) (den_str).borrow htr _ _ fun s₂ k₂ => ?_
  rw [if_pos rfl]
  have hb : binD .Add (.str [92]) (.str ((l.take e).drop b)) = some (.str (92 :: (l.take e).drop b)) := by
    have hc : ([92] : List Nat).length + ((l.take e).drop b).length ≤ lim := by rw [hlen, lim_eq, sizeLine_eq]; simp; omega
    show orr (if ([92] : List Nat).length + ((l.take e).drop b).length ≤ lim then some (D.str ([92] ++ (l.take e).drop b)) else none) none = _
    rw [if_pos hc]
    rfl
  refine bin_sound (X := fun _ => False) (fun h => h) (da := (den_str (l := [92])).borrow) (den_str).borrow hb _ _ fun v s₃ k₃ p₃ => ?_
  obtain ⟨t', rfl⟩ := den_str_inv p₃
  refine hQ t' s₃ (Kp.trans ⟨⟨h', _, rfl, g⟩, ?_⟩ (k₂.trans k₃))
  show s.toks ≤ _
  exact Nat.le_trans (Nat.le_add_right _ _) (Nat.le_trans (Nat.le_succ _) (Nat.le_trans (Nat.le_succ _) (Nat.le_succ _)))

end
end Mine
end

/-! S32 -/
section
open PySem PySem.W PyProof.Rows
set_option maxRecDepth 100000

namespace Mine
open PySem.Builtin.Re

theorem fn_call : ∃ v, typeLookup (.type "function") "__call__" = pure (some v) := ⟨.builtin "function.__call__", by rw [typeLookup_type, builtinLookup_eq_fast]; kernel_rfl⟩

theorem plain_sub : plainId "re.Pattern.sub" = true := by decide +kernel

section
variable {prog : Program} {w : World} {A : Around} {E : Value → Shared → Prop} {s : Shared}

theorem sub_call {P f : Addr} {fd : FuncData} {l : List Nat} {t : Tok} {R : Result → Shared → Prop} (hp : Pat s.heap P) (hf : s.heap.get? f = some { cls := .type "function", data := .func fd })
    (h : codeAny (model prog w) A (.builtin "re.Pattern.sub.loop" ⟨[.ref P, .str ⟨l.toArray⟩ t, .ref f, rawInt 1, rawInt 0, rawInt 0, rawInt (0 : Nat), rawInt (0 : Nat), .bool false, .ref s.heap.objs.size, .bool false], []⟩) R { s with heap := s.heap.push { cls := .type "list", data := .seq #[] } }) :
    codeAny (model prog w) A (.call (.builtin "re.Pattern.sub") ⟨[.ref P, .ref f, .str ⟨l.toArray⟩ t], []⟩) R s := by
  obtain ⟨x, tx, u, v, c, kk, T, e, items, n, e2, r⟩ := id hp
  refine codeAny_call_builtin plain_sub entry_sub (slot_sub.check _ _ _ _ _ _ _ _ ⟨_, e, rfl⟩ (args_sub _ _ _) ?_)
  show wpAny _ A.in1 (reSubstitute "re.Pattern.sub" "sub" false _) _ _ _
  unfold reSubstitute
  refine wpAny_bind (m := reNamed _ _ _ _ _ _) (wpAny_of_eq (a := [some (.ref f), some (.str ⟨l.toArray⟩ t), none]) (by first | rfl | kernel_rfl) ?_)
  dsimp only
  obtain ⟨cv, hcv⟩ := fn_call
  refine wpAny_bind (wpAny_pure (wpAny_bind (wpAny_specialOf (T := "function") ⟨_, hf, rfl⟩ hcv ?_)))
  rw [if_pos (show (some cv).isSome = true from rfl)]
  refine wpAny_bind (wpAny_pure ?_)
  rw [if_pos (show (some cv).isSome = true from rfl)]
  refine wpAny_bind (wpAny_pure ?_)
  refine wpAny_bind (wpAny_holding (wholeTarget hp ?_))
  dsimp only
  rw [if_pos (by decide)]
  refine wpAny_bind (m := reNotHeld _ _) ?_
  unfold reNotHeld
  have f1 : isSubtype (.type "str") (.type "bytearray") = pure false := by rw [isSubtype_type]; kernel_rfl
  refine wpAny_bind (wpAny_isInstance (T := "str") (typeIs_str _ _ _) f1 ?_)
  rw [if_neg (by decide)]
  refine wpAny_pure ?_
  refine wpAny_bind (wpAny_newObj_type (wpAny_pure ⟨plainId_quiet plain_subloop _, h⟩) (by size_fits))

end

noncomputable def subF (xs : Nat) (σ : Slots) : Option Slots := svS (fun l => if l.length ≤ 1000 then onO (fun r => if r.length ≤ 900 ∧ (r.map List.length).sum + r.length * 0 ≤ lim then some (put σ xs (.val (.str r.flatten))) else none) (subL l 20 0 0 false) else none) (σ xs)

section
variable {prog : Program} {w : World} {A : Around} {mg mb : Str → Option Value} {hG : Heap} {env : Env} {cx : Cx} {nm : Nat → Str} {N : Nat} {Φ : Str → List D → Option D}

/-- the pattern stands in the ground -/
structure PatG (mg : Str → Option Value) (hG : Heap) (n : Str) (P : Addr) : Prop where
  mg : mg n = some (.ref P)
  pat : Pat hG P
  ne : P ≠ tabA ∧ ∀ x t u v c k T, hG.get? P = some { cls := .type "re.Pattern", data := .fields #[.str x t, .int u v, .int 1 c, .none, .none, .ref T, .int 0 k] } → T ≠ tabA

theorem PatG.at {n : Str} {P : Addr} {h : Heap} (g : PatG mg hG n P) (B : Bas mg mb hG h) : Pat h P := by
  obtain ⟨x, t, u, v, c, k, T, e, items, m, e2, r⟩ := g.pat
  exact ⟨x, t, u, v, c, k, T, B.over _ _ g.ne.1 e, items, m, B.over _ _ (g.ne.2 _ _ _ _ _ _ _ e) e2, r⟩

theorem so_sub {k : Nat} {c P : Addr} {Cs : List (Pos × Str)} {n pn : Str} {p pp ap lp q cpos pos p1 p2 p3 p4 p5 p6 p7 p8 : Pos} {k1 k2 k3 : Nat} {params : Arguments} {scope : Scope} {xs : Nat} (O : Ok A nm N env) (hA : OkA (k + 1) A)
    (hY : ∀ a, cx.Y a ↔ a = tabA) (hT : cx.T = Tgood Cs) (hmem : (lp, env.qual ++ "<lambda>") ∈ Cs) (hd : ∀ pq ∈ Cs, pq.1.line = lp.line → pq.1.col = lp.col → pq.2 = env.qual ++ "<lambda>") (g : LamG mg hG c) (hcode : env.code = .ref c)
    (hP : PatG mg hG pn P) (dP : (pn == ("__debug__" : Str)) = false) (kP : env.kindOf pn = some .globalImplicit) (dn : (n == ("__debug__" : Str)) = false) (hl1 : (ap.endLine == cpos.line) = true) (hl2 : (p3.endLine == p5.line) = true)
    (hdef : defaultsOf params env = ([], [])) (hsc : scope = { kind := .function, names := [(PySem.Str.ofString "_m", .local)], isGenerator := false, isCoroutine := false, more := scope.more })
    (hbind : ∀ name qual pm c' ctv v, bindArgs (kla_fn name qual params (lamBody p1 p2 p3 p4 p5 p6 p7 p8 k1 k2 k3) scope [] pm (.ref c') ctv) ⟨[v], []⟩ = pure [(PySem.Str.ofString "_m", v)])
    (hx : nm xs = n) (hxN : xs < N) (hk : env.kindOf n = some .local ∨ env.kindOf n = some .cell) :
    SO prog w mg mb hG A Φ nm N cx env (.Assign [.Name n p] (.Call (.Attribute (.Name pn pp) "sub" ap) [.Lambda params (lamBody p1 p2 p3 p4 p5 p6 p7 p8 k1 k2 k3) scope lp, .Name n q] [] cpos) pos) (.spec (subF xs)) := by
  intro n' K X α σ s σ' fl J h
  refine spec_k h fun σ₁ hf h => svS_k hf fun l hσ hf => if_k hf fun hlen hf => onO_k hf fun r hr hf => if_k hf fun hb hf => ?_
  replace h : (some (put σ xs (.val (.str r.flatten)), .nxt) : Rs) = some (σ', fl) := (congrArg (fun q : Slots => (some (q, .nxt) : Rs)) (Option.some.inj hf)).trans h
  clear hf
  refine pr h ?_
  have pe : ∀ e ∈ [Expr.Lambda params (lamBody p1 p2 p3 p4 p5 p6 p7 p8 k1 k2 k3) scope lp, Expr.Name n q], plainE e = true := by simp [plainE]
  have hcl : closureFor scope env = pure [] := closureFor_none (by rw [hsc]; intro x hx; simp at hx; subst hx; decide)
  refine wpAny_Assign_Name (wpAny_Call_method_lateS rfl (few_ok pe (by simp)) hl1 (eval_glob O.hE dP kP J.e.bas hP.mg ?_)) rfl
  obtain ⟨x, tx, u, v, cc, kk, T, e, items, m, e2, rr⟩ := id (hP.at J.e.bas)
  refine ⟨"re.Pattern", "re.Pattern.sub", plain_pattern, slot_sub, type_sub, ⟨_, e, rfl⟩, fun a ha => by cases ha; exact ⟨_, e, rfl⟩, ?_⟩
  refine callWith_b pe (wpAny_items_cons (kla_eval hdef (lam_make J hY hT hmem hd g O.hE hcode hcl fun f s₁ pm ctv c' J1 R1 hf1 hXf hcr => ?_)) (starEach_plain rfl))
  have hvar : Snd prog w mg mb hG A Φ nm env (.Name n q) (.var xs) := snd_var O.hE dn hx
  refine wpAny_items_cons (ev1 hvar J1.e (d := .str l) (congrArg (varV .strict) hσ) fun y s₂ k2' _ py => wpAny_items_nil ?_) (starEach_plain rfl)
  obtain ⟨t, rfl⟩ := den_str_inv py
  have J2 := J1.kp k2'
  have hf2 := k2'.grow _ _ hf1
  have hcr2 : s₂.heap.CodeRec (.ref c') (env.qual ++ "<lambda>") := by
    obtain ⟨c2, oc, vs, tq, e2, hoc, r⟩ := hcr
    cases e2
    exact ⟨c', oc, vs, tq, rfl, k2'.grow _ _ hoc, r⟩
  have hpat2 := hP.at J2.e.bas
  refine wpAny_call (sub_call hpat2 hf2 ?_)
  have kpush : Kp s₂ { s₂ with heap := s₂.heap.push { cls := .type "list", data := .seq #[] } } := kp_push s₂ _
  generalize hs3 : ({ s₂ with heap := s₂.heap.push { cls := .type "list", data := .seq #[] } } : Shared) = s₃ at *
  have hL3 : s₃.heap.get? s₂.heap.objs.size = some { cls := .type "list", data := .seq #[] } := by rw [← hs3]; exact Heap.get?_push_size _ rfl
  have hfne : f ≠ s₂.heap.objs.size := Nat.ne_of_lt (Heap.lt_size hf2)
  refine sub_loop (s0 := s₃) (L := s₂.heap.objs.size) hlen (hpat2.grow kpush.grow) (fun s₄ fm b e' ho hbe hel hm Q E hQ => ?_) (fun o eo => by rw [hL3] at eo; cases eo; rfl) hb.2 hb.1 (fun t' s' ho => ?_) 20 0 0 false 0 [] r #[] s₃ hr rfl Over.refl ⟨_, hL3⟩ .nil
  · have hf4 := ho.1 _ _ hfne (kpush.grow _ _ hf2)
    have hlim4 : s₄.heap.NoLimit := by
      obtain ⟨mc, ⟨o1, es, ep, e1, r1⟩, r2⟩ := J2.e.bas.lim
      exact ⟨mc, ⟨o1, es, ep, ho.1 _ _ (Nat.ne_of_lt (Heap.lt_size e1)) (kpush.grow _ _ e1), r1⟩, r2⟩
    have hcr4 : s₄.heap.CodeRec (.ref c') (env.qual ++ "<lambda>") := by
      obtain ⟨c2, oc, vs, tq, e2, hoc, r⟩ := hcr2
      cases e2
      exact ⟨c', oc, vs, tq, rfl, ho.1 _ _ (Nat.ne_of_lt (Heap.lt_size hoc)) (kpush.grow _ _ hoc), r⟩
    exact lam_call (by
      have := hA.2.1
      show A.depth < recursionLimit
      unfold recursionLimit
      omega) hlim4 hl2 hf4 hcr4 (fun v => hbind _ _ _ _ _ v) hsc hlen hbe hel hm hQ
  · obtain ⟨o1, ⟨h', t'', rfl⟩, o3⟩ := ho
    have k5 : Kp s₂ { s₃ with heap := h', toks := t'' } := by
      subst hs3
      exact ⟨⟨h', t'', rfl, fun b o eo => o1 b o (Nat.ne_of_lt (Heap.lt_size eo)) (kpush.grow _ _ eo)⟩, o3⟩
    have J5 := J2.kp k5
    exact store_val hx hxN (fun z hz h => O.inj z xs hz hxN (h.trans hx.symm)) O.hE J5 hk den_str fun s₆ J6 r6 => ⟨X, α, J6, R1.trans ((Rel.kp k2').trans ((Rel.kp k5).trans r6)), rfl⟩

end
end Mine
end

/-! S33 -/
section
open PySem PySem.W PyProof.Rows
set_option maxRecDepth 100000

namespace Mine

noncomputable def bsl : Str := PySem.Str.ofString "\\"
noncomputable def bsl2 : Str := PySem.Str.ofString "\\\\"
noncomputable def hyp : Str := PySem.Str.ofString "-"
noncomputable def bhyp : Str := PySem.Str.ofString "\\-"

section
variable {prog : Program} {w : World} {A : Around} {E : Value → Shared → Prop} {s : Shared}

theorem replace_none {x y z : Str} {t u v : Tok} {Q : Value → Shared → Prop} (h : (Builtin.Str.occurrences x y 0 x.length (x.length + 1)).isEmpty = true) (hQ : Q (.str x t) s) :
    wpAny (model prog w) A (call (.builtin "str.replace") [.str x t, .str y u, .str z v]) Q E s := by
  refine call_gives PySem.F.slot_str_replace (typeIs_str _ _ _) PySem.F.entry_str_replace (PySem.F.args_str_replace_3 _ _ _) (gives_str_replace x y z t u v fun hf => ?_) ?_
  · rw [h, Bool.true_or] at hf; cases hf
  · rw [h]
    simp only [Bool.true_or, if_true]
    exact hQ

/-- the inner expression of the generator -/
noncomputable def genElt (p1 p2 p3 p4 p5 p6 p7 p8 p9 : Pos) (k1 k2 k3 k4 : Nat) : Expr :=
  .Call (.Attribute (.Call (.Attribute (.Name (PySem.Str.ofString "s") p1) "replace" p2) [.Constant (.str bsl) k1 p3, .Constant (.str bsl2) k2 p4] [] p5) "replace" p6) [.Constant (.str hyp) k3 p7, .Constant (.str bhyp) k4 p8] [] p9

theorem gen_elt {env : Env} {m : Str → Option Value} {x : Str} {t : Tok} {p1 p2 p3 p4 p5 p6 p7 p8 p9 : Pos} {k1 k2 k3 k4 : Nat} (hk : env.scope.kind = .function) (hkd : env.kindOf (PySem.Str.ofString "s") = some .local) (hn : s.heap.Ns env.locals m) (hm : m (PySem.Str.ofString "s") = some (.str x t))
    (hl1 : (p2.endLine == p5.line) = true) (hl2 : (p6.endLine == p9.line) = true) (hno : (Builtin.Str.occurrences x bsl 0 x.length (x.length + 1)).isEmpty = true) (hx : x.length ≤ 1048576) :
    wpAny (model prog w) A (eval (genElt p1 p2 p3 p4 p5 p6 p7 p8 p9 k1 k2 k3 k4) env) (fun y s₃ => (∃ t', y = .str (Txt.replace x hyp bhyp) t') ∧ Keeps s s₃) E s := by
  unfold genElt
  refine str_method PySem.F.slot_str_replace PySem.F.type_str_replace rfl (by simp [plainE]) (by simp) hl2 ?_
  refine str_method PySem.F.slot_str_replace PySem.F.type_str_replace rfl (by simp [plainE]) (by simp) hl1 (wpAny_Name (wpAny_loadName_local hk hkd hn hm ?_) (by decide +kernel))
  refine ⟨⟨_, _, rfl⟩, callWith_b (by simp [plainE]) (wpAny_items_cons (wpAny_Constant_str (wpAny_items_cons (wpAny_Constant_str (wpAny_items_nil ?_)) (starEach_plain rfl))) (starEach_plain rfl))⟩
  refine replace_none hno ?_
  refine ⟨⟨_, _, rfl⟩, callWith_b (by simp [plainE]) (wpAny_items_cons (wpAny_Constant_str (wpAny_items_cons (wpAny_Constant_str (wpAny_items_nil ?_)) (starEach_plain rfl))) (starEach_plain rfl))⟩
  refine SC.replaceW (Nat.succ_ne_zero _) (Nat.succ_ne_zero _) (Nat.ne_of_lt (Nat.lt_succ_self _)) (by decide +kernel) hx (by decide +kernel) fun t' k => ⟨⟨t', rfl⟩, ?_⟩
  exact ⟨s.heap, _, rfl, fun _ _ e => e⟩

end

end Mine
end

/-! S34 -/
section
open PySem PySem.W PyProof.Rows
set_option maxRecDepth 100000

namespace Mine
section
variable {prog : Program} {w : World} {A : Around} {mg mb : Str → Option Value} {hG : Heap} {env : Env} {cx : Cx} {nm : Nat → Str} {N : Nat} {Φ : Str → List D → Option D}

theorem SInv.grow {K X α σ s s'} (x : SInv mg mb hG env nm N cx K X α σ s) (g : Grow s.heap s'.heap) (ht : s.toks ≤ s'.toks) (hR : cx.R s') : SInv mg mb hG env nm N cx K X α σ s' := by
  refine ⟨⟨x.e.bas.grow g, Nat.le_trans x.e.tok ht, x.e.live.grow g, fun y => (x.e.slots y).grow g⟩, x.sub, fun a ha => ?_, hR, x.fX, x.fK, x.fY, ?_, fun n hn => ?_, x.own, x.dom, x.glob⟩
  · obtain ⟨a1, a2, ps, e, t, T⟩ := x.ysub a ha
    exact ⟨a1, a2, ps, g _ _ e, t, cx.hT _ _ _ _ _ g.mono T⟩
  · obtain ⟨m, hm⟩ := x.fns
    exact ⟨m, hm.keeps g⟩
  · obtain ⟨c, h1, h2, h3, h4, h5, ⟨v, h6⟩, h7⟩ := x.cell n hn
    exact ⟨c, h1, h2, h3, h4, h5, ⟨v, h6.keeps g⟩, h7⟩

theorem SInv.retok {K X α σ s} {t : Nat} (x : SInv mg mb hG env nm N cx K X α σ s) (ht : 1 ≤ t) : SInv mg mb hG env nm N cx K X α σ { s with toks := t } :=
  ⟨⟨x.e.bas, ht, x.e.live, x.e.slots⟩, x.sub, x.ysub, cx.hR _ _ _ x.rest, x.fX, x.fK, x.fY, x.fns, x.cell, x.own, x.dom, x.glob⟩

theorem gcode_make {K X α σ s} {c : Addr} {Cs : List (Pos × Str)} {qual : Str} {scope : Scope} {pos : Pos} {E : Value → Shared → Prop} {Q : Value → Shared → Prop} (J : SInv mg mb hG env nm N cx K X α σ s) (hY : ∀ a, cx.Y a ↔ a = tabA)
    (hT : cx.T = Tgood Cs) (hd : ∀ pq ∈ Cs, pq.1.line = pos.line → pq.1.col = pos.col → pq.2 = qual) (g : LamG mg hG c) (hcode : env.code = .ref c)
    (hQ : ∀ code s', SInv mg mb hG env nm N cx K X α σ s' → Rel K X s X s' → (∃ h t, s' = { s with heap := h, toks := t }) → (∀ b o, b ≠ tabA → s.heap.get? b = some o → s'.heap.get? b = some o) → Q code s') :
    wpAny (model prog w) A (genexprCode env pos qual scope) Q E s := by
  have B := J.e.bas
  have yT : cx.Y tabA := (hY _).mpr rfl
  obtain ⟨hXa, hKa, ps, htab, htr, hTg⟩ := J.ysub _ yT
  have C := g.codeAt B
  have live : ∀ a, s.heap.objs.size ≤ a → ¬ X a := fun a ha hx => by
    obtain ⟨o, e⟩ := J.e.live a hx
    exact absurd (Heap.lt_size e) (Nat.not_lt.mpr ha)
  cases hf : codeAmong pos ps.toList with
  | none =>
    refine wpAny_with_toks (Nat.le_refl _) (wpAny_genexprCodeX hcode (C.code htab htr) (C.tab htab) hf fun c' h' tk hx hge hlt hic hrec htb _ htk => ?_)
    have hs : ∀ b o, b ≠ tabA → s.heap.get? b = some o → h'.get? b = some o := fun b o hb e => hx b o hb e
    have htl : (ps ++ #[rawInt pos.line, rawInt pos.col, .ref c']).toList = ps.toList ++ [rawInt pos.line, rawInt pos.col, .ref c'] := by simp
    obtain ⟨J', R'⟩ := J.tab hY hs htk htb.2 (by rw [htl]; exact triples_snoc _ htr) (by
      rw [hT] at hTg ⊢
      intro pq hp cv hc
      rw [htl, among_snoc _ htr] at hc
      have mono : Mono s.heap X h' X := fun b o e n => ⟨hs b o (fun h => n (h ▸ hXa)) e, n⟩
      cases ha : codeAmong pq.1 ps.toList with
      | some x =>
        rw [ha] at hc
        cases hc
        exact (hTg.mono mono) pq hp _ ha
      | none =>
        rw [ha] at hc
        simp only at hc
        split at hc
        · rename_i hpos
          cases hc
          simp only [Bool.and_eq_true, beq_iff_eq] at hpos
          have := hd pq hp (by omega) (by omega)
          exact ⟨c', rfl, live c' hge, this ▸ hrec⟩
        · cases hc)
    exact hQ _ _ J' R' ⟨_, _, rfl⟩ hs
  | some cv => exact wpAny_genexprCode_hit hcode (C.code htab htr) hf (hQ cv s J Rel.refl ⟨_, _, rfl⟩ fun _ _ _ e => e)

noncomputable def genOut (ls : List (List Nat)) : List Str := ls.map fun l => Txt.replace ⟨l.toArray⟩ hyp bhyp
noncomputable def genOk (ls : List (List Nat)) : Bool := decide (ls.length ≤ 900) && ls.all (fun l => decide (l.length ≤ 1000) && (Builtin.Str.occurrences ⟨l.toArray⟩ bsl 0 (⟨l.toArray⟩ : Str).length ((⟨l.toArray⟩ : Str).length + 1)).isEmpty) && JoinOk hyp (genOut ls)
noncomputable def genF (xs xc : Nat) (σ : Slots) : Option Slots := svO (fun l => onO (fun ls => if genOk ls = true then some (put σ xs (.val (.str (Txt.join hyp (genOut ls)).cps.toList))) else none) (allStr l)) (σ xc)

theorem allStr_den {h : Heap} {X : Addr → Prop} : ∀ {ds : List D} {ls : List (List Nat)} {vs : List Value}, allStr ds = some ls → DenL h X ds vs → ∀ i v, vs[i]? = some v → ∃ t, v = Value.str ⟨(ls.getD i []).toArray⟩ t
  | [], ls, vs, _, q, i, v, hv => by rw [q.nil_inv] at hv; exact nope hv
  | d :: ds, ls, vs, e, q, i, v, hv => by
    obtain ⟨u, r, rfl, p, q'⟩ := q.cons_inv
    cases d with
    | str l =>
      refine strs_k e fun x h1 e => ?_
      rw [← e]
      cases i with
      | zero => exact let ⟨t, ht⟩ := den_str_inv p; ⟨t, (Option.some.inj hv).symm.trans ht⟩
      | succ i => exact allStr_den h1 q' i v hv
    | _ => exact nope e
theorem allStr_len : ∀ {ds : List D} {ls : List (List Nat)}, allStr ds = some ls → ls.length = ds.length
  | [], ls, e => (Option.some.inj (show some [] = some ls from e)) ▸ rfl
  | d :: ds, ls, e => by
    cases d with
    | str l => exact strs_k e fun x h1 e => by rw [← e, List.length_cons, List.length_cons, allStr_len h1]
    | _ => exact nope e

theorem so_gen {k : Nat} {c : Addr} {Cs : List (Pos × Str)} {n nc : Str} {p ap pc gp px cpos pos p1 p2 p3 p4 p5 p6 p7 p8 p9 pq : Pos} {k0 k1 k2 k3 k4 : Nat} {gscope : Scope} {xs xc : Nat} (O : Ok A nm N env) (hA : OkA (k + 1) A)
    (hY : ∀ a, cx.Y a ↔ a = tabA) (hT : cx.T = Tgood Cs) (hd : ∀ pq ∈ Cs, pq.1.line = gp.line → pq.1.col = gp.col → pq.2 = env.qual ++ "<genexpr>") (g : LamG mg hG c) (hcode : env.code = .ref c)
    (hRg : ∀ s s' : Shared, cx.R s → s'.os = s.os → (AllBare s.gens → AllBare s'.gens) → cx.R s')
    (dc : (nc == ("__debug__" : Str)) = false) (hl : (ap.endLine == cpos.line) = true) (hl1 : (p2.endLine == p5.line) = true) (hl2 : (p6.endLine == p9.line) = true)
    (hsc : gscope.kind = .function ∧ gscope.isCoroutine = false ∧ gscope.names = [(PySem.Str.ofString ".0", .local), (PySem.Str.ofString "s", .local)])
    (hx : nm xs = n) (hxN : xs < N) (hk : env.kindOf n = some .local ∨ env.kindOf n = some .cell) (hxc : nm xc = nc) :
    SO prog w mg mb hG A Φ nm N cx env (.Assign [.Name n p] (.Call (.Attribute (.Constant (.str hyp) k0 pq) "join" ap) [.GeneratorExp (genElt p1 p2 p3 p4 p5 p6 p7 p8 p9 k1 k2 k3 k4) [⟨.Name (PySem.Str.ofString "s") px, .Name nc pc, [], 0⟩] gscope gp] [] cpos) pos) (.spec (genF xs xc)) := by
  intro n' K X α σ s σ' fl J h
  refine spec_k h fun σ₁ hf h => svO_k hf fun l hσ hf => onO_k hf fun ls hls hf => if_k hf fun hok hf => ?_
  replace h : (some (put σ xs (.val (.str (Txt.join hyp (genOut ls)).cps.toList)), .nxt) : Rs) = some (σ', fl) := (congrArg (fun q : Slots => (some (q, .nxt) : Rs)) (Option.some.inj hf)).trans h
  clear hf
  refine pr h ?_
  unfold genOk at hok
  simp only [Bool.and_eq_true, decide_eq_true_eq, List.all_eq_true] at hok
  obtain ⟨⟨hlen, hall⟩, hjoin⟩ := hok
  have hroom : A.depth < recursionLimit := by
    have := hA.2.1
    unfold recursionLimit
    omega
  have pe : ∀ e ∈ [Expr.GeneratorExp (genElt p1 p2 p3 p4 p5 p6 p7 p8 p9 k1 k2 k3 k4) [⟨.Name (PySem.Str.ofString "s") px, .Name nc pc, [], 0⟩] gscope gp], plainE e = true := by simp [plainE]
  have hnames := hsc.2.2
  have hclos : closureFor gscope env = pure [] := closureFor_none (by rw [hnames]; intro x hx; simp at hx; rcases hx with rfl | rfl <;> decide)
  refine wpAny_Assign_Name (str_method PySem.F.slot_str_join PySem.F.type_str_join rfl pe (by simp) hl (wpAny_Constant_str ⟨⟨_, _, rfl⟩, ?_⟩)) rfl
  have J0 := J.kp (kp_toks s 1)
  refine callWith_b pe (wpAny_items_cons ?_ (starEach_plain rfl))
  refine wpAny_with_toks (n := s.toks) (Nat.le_succ _) (wpAny_GeneratorExp_walksQ (cl := []) O.hh hsc.2.1 hclos (by rw [hnames]; intro x hx; simp at hx; rcases hx with rfl | rfl <;> decide) (by rw [hnames]; rfl) (by rw [hnames]; decide +kernel) hsc.1 hroom ?_ (fun _ => rfl))
  have old := J0.e.slots xc
  rw [hσ] at old
  obtain ⟨hXc, hlk, vs, il, q⟩ := old
  rw [hxc] at hlk
  refine eval_look O.hE dc hlk ?_
  refine wpAny_pyIter_list il.isList ?_
  generalize hs0 : ({ s with toks := s.toks + 1 } : Shared) = s0 at *
  have k2p : Kp s0 { s0 with heap := s0.heap.push { cls := .type "list_iterator", data := .fields #[.ref (α xc), .int 0 0] } } := kp_push s0 _
  obtain ⟨J2, R2⟩ := J0.guard k2p (get_new s0.heap) ⟨_, Heap.get?_push_size _ rfl⟩
  have hne : α xc ≠ s0.heap.objs.size := by
    obtain ⟨c, e⟩ := il
    exact Nat.ne_of_lt (Heap.lt_size e)
  have hit2 : (s0.heap.push { cls := .type "list_iterator", data := .fields #[.ref (α xc), .int 0 0] }).IsListIter s0.heap.objs.size (α xc) 0 := ⟨_, Heap.get?_push_size _ rfl, rfl, rfl⟩
  have hil2 := il.at (k2p.grow _)
  generalize hs2 : ({ s0 with heap := s0.heap.push { cls := .type "list_iterator", data := .fields #[.ref (α xc), .int 0 0] } } : Shared) = s2 at *
  have hit2' : s2.heap.IsListIter s0.heap.objs.size (α xc) 0 := by rw [← hs2]; exact hit2
  refine ⟨J2.e.bas.lim, gcode_make J2 hY hT hd g hcode fun code s₃ J3 R3 same3 keep3 => ?_⟩
  obtain ⟨bm, ob, b1, b2, b3, b4, b5, b6, b7, b8⟩ := g.bmAt J3.e.bas
  refine wpAny_builtinsFor (by rw [O.hE.2.1]; exact J3.e.bas.g) b1 b2 b5 b6 b7 b8 ?_
  have hm : Mut (σ xc) := by rw [hσ]; exact trivial
  have hap := (J2.own xc hm).1
  have hgl : ¬ Gl hG s0.heap.objs.size := not_glob J0 (get_new _)
  have hKI : ¬ K s0.heap.objs.size := fun hk => by
    obtain ⟨o, e⟩ := J0.e.live _ (J0.sub _ hk)
    rw [get_new] at e; cases e
  have hI0 : s0.heap.objs.size ≠ tabA := fun h => by
    obtain ⟨_, _, ps, e, _⟩ := J0.ysub tabA ((hY _).mpr rfl)
    rw [← h, get_new] at e; cases e
  have hax : α xc ≠ tabA := fun h => hap.y ((hY _).mpr h)
  have hit3 : s₃.heap.IsListIter s0.heap.objs.size (α xc) 0 := let ⟨o, e, r⟩ := hit2'; ⟨o, keep3 _ o hI0 e, r⟩
  have hil3 : s₃.heap.PlainList (α xc) vs := hil2.at fun o e => keep3 _ o hax e
  have hvl : vs.size = ls.length := by
    rw [allStr_len hls, ← q.length]; simp
  have hval : ∀ i v, vs[i]? = some v → ∃ t, v = Value.str ⟨(ls.getD i []).toArray⟩ t := fun i v hv => allStr_den hls q i v (by simpa using hv)
  have hcs3 : cStatics < s₃.heap.objs.size := let ⟨_, hn, _⟩ := J3.e.bas.lim; hn.lt
  refine ⟨s0.heap.objs.size, [s0.heap.objs.size, α xc], [s0.heap.objs.size], vs.size, _, _, fun _ => true, fun i y => ∃ t', y = Value.str (Txt.replace ⟨(ls.getD i []).toArray⟩ hyp bhyp) t', rfl, fun A' hA' => Walks.list hA' _ _ hne vs, ⟨hit3, hil3.isList⟩, fun b hb => ?_, J3.e.bas.lim, ?_, fun href hk => ⟨fun A' E' i v s₂ m₂ _ hP hn hm' _ => ?_, fun A' E' i v s₂ m₂ _ hP _ hn hm' _ => ?_⟩, fun a h₅ tk gs hb ha hsz hk5 W hst => ?_⟩
  · rcases List.mem_cons.mp hb with rfl | hb
    · obtain ⟨o, e, _⟩ := hit3; exact Heap.lt_size e
    · rcases List.mem_cons.mp hb with rfl | hb
      · obtain ⟨_, e⟩ := hil3; exact Heap.lt_size e
      · cases hb
  · intro hmem
    have h1 : cStatics = s0.heap.objs.size := List.mem_singleton.mp hmem
    obtain ⟨_, ⟨o, _, _, e, _⟩, _⟩ := J0.e.bas.lim
    rw [h1, get_new] at e; cases e
  · exact wpAny_tests_nil ⟨rfl, keeps_refl _⟩
  · obtain ⟨t, rfl⟩ := hval i v hP
    have hi : i < ls.length := by rw [← hvl]; exact (Array.getElem?_eq_some_iff.mp hP).1
    have hmem : ls.getD i [] ∈ ls := by
      rw [List.getD_eq_getElem?_getD, List.getElem?_eq_getElem hi]
      exact List.getElem_mem hi
    obtain ⟨z1, z2⟩ := hall _ hmem
    exact gen_elt (m := m₂) hsc.1 (by show gscope.names.lookup _ = _; rw [hnames]; decide +kernel) hn hm' hl1 hl2 z2 (by rw [str_len]; omega)
  · -- the join
    have hp0 : passing (fun _ => true) vs.size 0 = List.range vs.size := by unfold passing; simp
    have hplen : (passing (fun _ => true) vs.size 0).length = vs.size := by rw [hp0]; simp
    intro htk5
    refine wpAny_items_nil ?_
    refine wpAny_with_toks (n := s.toks) htk5 (SC.joinGen W.in4_2 (fun i s' st => st.1.typeIs) hst ?_ (List.mem_cons_self ..) (fun i v hv => ?_) (fun s' lt hmv hacc => ?_) (by rw [hplen, hvl, sizeLine_eq]; omega))
    · intro b hb
      show b < h₅.objs.size
      rw [hsz]
      rcases List.mem_cons.mp hb with rfl | hb
      · exact Nat.lt_succ_self _
      · rcases List.mem_cons.mp hb with rfl | hb
        · exact Nat.lt_succ_of_lt ha
        · exact Nat.lt_succ_of_lt (Nat.lt_trans (List.mem_range.mp hb) ha)
    · obtain ⟨j, hj, t', e⟩ := hv
      exact ⟨_, t', e⟩
    · have hlt : lt.map (·.1) = genOut ls := by
        apply List.ext_getElem?
        intro j
        have hsz2 : lt.length = ls.length := by
          have : lt.length = (passing (fun _ => true) vs.size 0).length := by simpa [strValues] using hacc.1
          rw [this, hplen, hvl]
        by_cases hj : j < ls.length
        · have hj' : j < lt.length := hsz2 ▸ hj
          obtain ⟨i, hi, u, hv⟩ := hacc.2 j (.str lt[j].1 lt[j].2) (by simp [strValues, List.getElem?_eq_getElem hj'])
          have hij : i = j := by
            rw [hp0] at hi
            rw [List.getElem?_range (by rw [hvl]; exact hj)] at hi
            exact (Option.some.inj hi).symm
          subst hij
          injection hv with h1 _
          unfold genOut
          simp [List.getElem?_eq_getElem hj', hj, h1, List.getD_eq_getElem?_getD]
        · rw [List.getElem?_eq_none (by simpa [hsz2] using Nat.le_of_not_lt hj), List.getElem?_eq_none (by unfold genOut; simpa using Nat.le_of_not_lt hj)]
      rw [hlt]
      refine ⟨hjoin, fun t' kk => ?_⟩
      intro htk
      -- the state after
      have keepF : ∀ b o, b ≠ s0.heap.objs.size → s₃.heap.get? b = some o → s'.heap.get? b = some o := by
        intro b o hb e
        refine hmv.heap b o (fun hmem => ?_) (hk5 b o e)
        rcases List.mem_cons.mp hmem with h | h
        · exact absurd (Heap.lt_size e) (by rw [h]; exact Nat.lt_irrefl _)
        · exact hb (List.mem_singleton.mp h)
      have J4 : SInv mg mb hG env nm N cx K (Del1 (Add1 X s0.heap.objs.size) s0.heap.objs.size) α σ { s₃ with heap := s'.heap, toks := kk } :=
        (J3.retok (t := s.toks) J.e.tok).tick (.inr rfl) hgl keepF htk (fun b h => h.1) (fun b h h' => ⟨h, h'⟩) (fun h => absurd rfl h.2) (fun b h => ⟨.inl h, ⟨.inl (J0.sub b h), fun h' => hKI (h' ▸ h)⟩⟩) (fun b h h' => h.elim id fun h => absurd h h')
      have J5 : SInv mg mb hG env nm N cx K (Del1 (Add1 X s0.heap.objs.size) s0.heap.objs.size) α σ { s' with toks := kk } := by
        refine J4.grow (Grow.refl _) (Nat.le_refl _) (hRg _ _ J4.rest ?_ fun hbare => ?_)
        · exact hmv.os
        · exact GenOnlyQ.bare hmv.gens (AllBare.push hbare hb)
      have st : Rel K X s (Del1 (Add1 X s0.heap.objs.size) s0.heap.objs.size) { s' with toks := kk } := by
        have nI : ∀ b o, s0.heap.get? b = some o → b ≠ s0.heap.objs.size := fun b o e h => by rw [h, get_new] at e; cases e
        have k01 : Kp s s0 := by rw [← hs0]; exact kp_toks s 1
        refine ⟨fun b o e n => ?_, fun b o kb e => ?_, htk⟩
        · have e1 := k01.grow _ _ e
          have hb := nI b o e1
          obtain ⟨e2, n2⟩ := R2.1 b o e1 n
          obtain ⟨e3, n3⟩ := R3.1 b o e2 n2
          exact ⟨keepF b o hb e3, fun h => n3 h.1⟩
        · have e1 := k01.grow _ _ e
          have hb := nI b o e1
          exact keepF b o hb (R3.2.1 b o (.inl kb) (R2.2.1 b o kb e1))
      refine store_val hx hxN (fun z hz h => O.inj z xs hz hxN (h.trans hx.symm)) O.hE J5 hk ?_ fun s₆ J6 r6 => ⟨_, α, J6, st.trans r6, rfl⟩
      unfold Den
      exact ⟨t', rfl⟩

end
end Mine
end

/-! S35 -/
section
open PySem PySem.W PyProof.Rows
set_option maxRecDepth 4000

namespace Mine
section
variable {prog : Program} {w : World} {mg mb : Str → Option Value} {hG : Heap} {A : Around} {Φ : Str → List D → Option D} {nm : Nat → Str} {N : Nat} {cx : Cx} {env : Env}

theorem mapSeq_set {x : Value} {vs : Array Value} {c i : Nat} {v : Value} : Obj.mapSeq (·.setIfInBounds i v) ({ cls := x, data := .seq vs c } : Obj) = { cls := x, data := .seq (vs.setIfInBounds i v) c } := by
  show Obj.mk _ _ _ _ = _
  simp

theorem setItem_list_neg {s : Shared} {E : Value → Shared → Prop} {l : Addr} {items : Array Value} {k : Int} {t : Tok} {v : Value} {Q : Unit → Shared → Prop} (hp : s.heap.PlainList l items)
    (h0 : k < 0) (h1 : -(items.size : Int) ≤ k) (hfit : -(2 ^ 63) ≤ k)
    (hQ : ∀ h', h'.PlainList l (items.setIfInBounds (k + items.size).toNat v) → Heap.SameBut l s.heap h' → Q () { s with heap := h' }) :
    wpAny (model prog w) A (setItem (.ref l) (.int k t) v) Q E s := by
  have hl := hp.isList
  obtain ⟨c, hpl⟩ := hp
  obtain ⟨o, ho, hc, ne, hd⟩ := id hl
  unfold setItem
  try with_reducible refine wpAny_holding ?_
  first | refine wpAny_bind (wpAny_pure ?_) | skip
  refine wpAny_bind (wpAny_sequenceKey hl.typeIs (by decide) ?_)
  refine wpAny_bind (wpAny_callSpecial?_slot (name := Str.ofString "__setitem__") hl.typeIs slot_list_setitem
    (wpAny_call_entry slot_list_setitem hl.typeIs entry_list_setitem ?_ (args_list_setitem _ _ _)))
  show wpAny _ _ (Builtin.List.listSubscript? (.int k t) >>= _) _ _ s
  refine wpAny_bind (wpAny_listSubscript_int (fitsIndex_neg h0 hfit) ?_)
  clear hfit
  have hidx := seqIndex_neg h0 h1
  have hj : (k + items.size).toNat < items.size := by omega
  have hx' : items[(k + items.size).toNat]? = some items[(k + items.size).toNat] := Array.getElem?_eq_getElem hj
  generalize (k + items.size).toNat = jj at *
  obtain ⟨j, rfl⟩ : ∃ j : Nat, k = Int.negSucc j := by
    cases k with
    | ofNat n => exact absurd h0 (Int.not_lt.mpr (Int.ofNat_nonneg n))
    | negSucc n => exact ⟨n, rfl⟩
  show wpAny _ _ ((Builtin.List.listItems (.ref l) >>= fun xs => pure ((seqIndex? (Int.negSucc j) xs.size).bind fun i => xs[i]?.map (i, ·))) >>= _) _ _ s
  refine wpAny_bind (wpAny_bind ?_)
  show wpAny _ _ (seqItems? (.ref l) >>= _) _ _ s
  refine wpAny_bind (wpAny_seqItems ho hd (wpAny_pure (wpAny_pure ?_)))
  rw [hidx]
  simp only [Option.bind_some, hx', Option.map_some]
  show wpAny _ _ (setSeqItemAt l jj v >>= _) _ _ s
  have hfin : (s.heap.update l (Obj.mapSeq (·.setIfInBounds jj v))).PlainList l (items.setIfInBounds jj v) :=
    ⟨c, by rw [Heap.get?_update_self _ hpl (by rw [mapSeq_set]; rfl), mapSeq_set]⟩
  refine wpAny_bind (wpAny_setSeqItemAt ho hd ?_)
  first
    | exact wpAny_bind (wpAny_pure (wpAny_pure ⟨.none, rfl, wpAny_pure (hQ _ hfin (Heap.SameBut.update ..))⟩))
    | exact wpAny_pure ⟨.none, rfl, wpAny_pure (hQ _ hfin (Heap.SameBut.update ..))⟩

/-- the last of an own list of texts grows -/
noncomputable def lastF (x : Nat) (m : List Nat) (σ : Slots) : Option Slots := svO (fun l => svS (fun t => if t.length + m.length ≤ lim ∧ l.length ≤ lim then some (upd σ x (.own (l.set (l.length - 1) (.str (t ++ m))))) else none) ((l.getLast?.map SV.val).getD .un)) (σ x)
theorem last_at {l : List D} {d : D} (h : (l.getLast?.map SV.val).getD .un = .val d) : l.getLast? = some d := by
  revert h
  cases l.getLast? with
  | none => exact fun h => SV.noConfusion h
  | some x => exact fun h => congrArg some (SV.val.inj h)

theorem so_last {i e : Expr} {m : List Nat} {p tp pos : Pos} {n : Str} {x : Nat} (O : Ok A nm N env) (hd : (n == ("__debug__" : Str)) = false)
    (hi : Snd prog w mg mb hG A Φ nm env i (.int (-1))) (he : Snd prog w mg mb hG A Φ nm env e (.str m)) (hx : nm x = n)
    (hs : ∀ ov iv new, augStore i ov iv new = (do holding [new, ov, iv] (setItem ov iv new); release [new, ov, iv] []; pure .next)) :
    SO prog w mg mb hG A Φ nm N cx env (.AugAssign (.Subscript (.Name n p) i tp) .Add e pos) (.spec (lastF x m)) := by
  intro n' K X α σ s σ' fl I h
  refine spec_k h fun σ₁ hf h => svO_k hf fun l hσ hf => svS_k hf fun t hl hf => if_k hf fun hlen hf => ?_
  replace h : (some (upd σ x (.own (l.set (l.length - 1) (.str (t ++ m)))), .nxt) : Rs) = some (σ', fl) := (congrArg (fun q : Slots => (some (q, .nxt) : Rs)) (Option.some.inj hf)).trans h
  clear hf
  replace hl := last_at hl
  refine pr h ?_
  have old := I.e.slots x
  rw [hσ] at old
  obtain ⟨hX, hlk, vs, il, q⟩ := old
  rw [hx] at hlk
  obtain ⟨hpos, hget⟩ := getLast_get l hl
  have hsz : vs.size = l.length := by have := q.length; rw [Array.length_toList] at this; exact this
  refine wpAny_AugAssign_SubscriptAny (eval_look O.hE hd hlk ?_) hs
  refine ev1 hi I.e (d := .int (-1)) rfl fun iv s1 k1 I1 p1 => ?_
  obtain ⟨it, rfl⟩ := den_int_inv p1
  obtain ⟨y, hy, dy⟩ := q.get hget
  have il1 := il.at (k1.grow _)
  have hk : (-1 + (vs.size : Int)).toNat = l.length - 1 := by omega
  refine wpAny_getItem_list_neg il1.isList (by decide) (by omega) (by decide) (x := y) (by rw [hk]; simpa using hy) ?_
  have J1 := I.kp k1
  refine ev1 he J1.e (d := .str m) rfl fun v s2 k2 I2 p2 => ?_
  refine inp_sound (X := X) (d := .str (t ++ m)) (dy.mono (k1.trans k2).grow.mono) p2 (by show (if t.length + m.length ≤ lim then some (D.str (t ++ m)) else none) = _; exact if_pos hlen.1) _ _ fun r s3 k3 p3 => ?_
  have k13 := (k1.trans k2).trans k3
  refine setItem_list_neg (il.at (k13.grow _)) (by decide) (by omega) (by decide) fun h' hl' hs' => ?_
  have J3 := I.kp k13
  rw [hk] at hl'
  obtain ⟨J4, r4⟩ := J3.grown hσ hs' hl' (l' := l.set (l.length - 1) (.str (t ++ m))) (by
    rw [Array.toList_setIfInBounds]
    exact (q.mono k13.grow.mono).set _ p3)
  exact ⟨X, α, J4, (Rel.kp k13).trans r4, rfl⟩

/-- the loop `for x in range(it, 0, -1)` -/
noncomputable def nxtO : Rs → Option Slots
  | some (σ', .nxt) => some σ'
  | _ => none
theorem nxtO_k {G : Prop} {r : Rs} {q : Slots} (e : nxtO r = some q) (k : r = some (q, .nxt) → G) : G := by
  cases r with
  | none => exact nope e
  | some p =>
    obtain ⟨σ, f⟩ := p
    cases f with
    | nxt => exact k (by rw [← Option.some.inj (show some σ = some q from e)])
    | _ => exact nope e
noncomputable def downF (Φ : Str → List D → Option D) (x : Nat) (ci : E) (cb : List S) (fuel : Nat) (σ : Slots) : Option Slots := sI (fun k => if 0 ≤ k ∧ k ≤ 1000 then nxtO (loopL (run Φ fuel cb) x (rangeN k k.toNat (-1)) σ) else none) (evm Φ .strict ci σ)

theorem size_down {k : Int} (h0 : 0 ≤ k) : Builtin.Range.rangeSize k 0 (-1) = (k.toNat : Int) := by
  unfold Builtin.Range.rangeSize
  simp only [show ¬ ((-1 : Int) > 0) by decide, if_false]
  split
  · have e : (-(-1 : Int)) = 1 := by decide
    rw [e, Int.ediv_one]; omega
  · omega
theorem small_down {k : Int} (h0 : 0 ≤ k) (h1 : k ≤ 1000) : Builtin.Range.small k 0 (-1) = true := by
  unfold Builtin.Range.small
  rw [size_down h0]
  simp only [Builtin.Range.rangeFitsLong, Bool.and_eq_true, Bool.or_eq_true, decide_eq_true_eq, beq_iff_eq, show ¬ ((-1 : Int) > 0) by decide, if_false]
  omega

theorem so_down {body : List Stmt} {cb : List S} {it e0 e1 : Expr} {ci : E} {fuel : Nat} {n : Str} {x : Nat} {p pos rp rpos : Pos} (O : Ok A nm N env) (hb' : Built mg mb) (hkr : env.kindOf "range" = some .globalImplicit) (pi : plainE it = true) (p0 : plainE e0 = true) (p1 : plainE e1 = true)
    (hi : Snd prog w mg mb hG A Φ nm env it ci) (hi0 : Snd prog w mg mb hG A Φ nm env e0 (.int 0)) (hi1 : Snd prog w mg mb hG A Φ nm env e1 (.int (-1))) (hx : nm x = n) (hxN : x < N) (hk : env.kindOf n = some .local ∨ env.kindOf n = some .cell)
    (hb : SS prog w mg mb hG A Φ nm N cx env body cb) : SO prog w mg mb hG A Φ nm N cx env (.For (.Name n p) (.Call (.Name "range" rp) [it, e0, e1] [] rpos) body [] pos) (.spec (downF Φ x ci cb fuel)) := by
  intro n' K X α σ s σ' fl I h
  refine spec_k h fun σ₂ hf h => sI_k hf fun l h1 hf => if_k hf fun hlen hf => nxtO_k hf fun hr => pr h ?_
  refine wpAny_For ?_
  refine Call_ (eval_built O.hE (by decide +kernel) hkr I.e.bas hb'.range ?_) rfl
  refine Pv.callWith_type1 (items3 pi p0 p1 hi hi0 hi1 I.e h1 (y := .int 0) (z := .int (-1)) rfl rfl fun v u t s1 k1 _ q1 q2 q3 => ?_) (starEach_plain pi) (by rw [starEach_plain p0, starEach_plain p1]; rfl)
  obtain ⟨t1, rfl⟩ := den_int_inv q1
  obtain ⟨t2, rfl⟩ := den_int_inv q2
  obtain ⟨t3, rfl⟩ := den_int_inv q3
  have I1 := I.kp k1
  refine call_range_3 (by decide) ?_
  have k2 := kp_push s1 { cls := .type "range", data := .fields #[.int l t1, .int 0 t2, .int (-1) t3] }
  generalize hs2 : ({ s1 with heap := s1.heap.push { cls := .type "range", data := .fields #[.int l t1, .int 0 t2, .int (-1) t3] } } : Shared) = s2 at *
  have hrg : IsRange s2.heap s1.heap.objs.size l 0 (-1) t1 t2 t3 := by rw [← hs2]; exact IsRange.new ..
  have I2 := I1.kp k2
  refine src_ranger (X := X) O.hh hrg (small_down hlen.1 hlen.2) (size_down hlen.1) fun It fp P St s3 k3 S hst hIt hIt' hfp hal => ?_
  have hIn : s2.heap.get? It = none := by
    cases e : s2.heap.get? It with
    | none => rfl
    | some o => exact absurd (Heap.lt_size e) (Nat.not_lt.mpr hIt')
  refine codeAny_mono (for_core (s0 := s2) (n' := fuel) O hx hxN hk hb S.W I2 k3 hIn hst (fun b hb => .inl (hfp b hb)) hal (fun i v d s₁ X₁ hP hd R => (S.val i v d _ hP hd (Grow.refl _)).scal ?_) hr) fun r s' hr => ?_
  · unfold rangeN at hd
    rw [List.getElem?_map] at hd
    cases hz : (List.range l.toNat)[i]? with
    | none => rw [hz] at hd; cases hd
    | some j => rw [hz] at hd; cases hd; rfl
  · cases r with
    | ok f => exact hr.trans (Rel.kp (k1.trans k2))
    | error e => exact hr
end
end Mine
end

/-! S36 -/
section
open PySem PySem.W PyProof.Rows
set_option maxRecDepth 100000

namespace Mine
noncomputable abbrev prg : Program := PySem.Challenge.rw_in0241_01.row.prog
noncomputable def dr (f : Str) (h : (defOf prg f).isSome = true) : DefRec := ((defOf prg f).get h).1
noncomputable def no : Str → List D → Option D := fun _ _ => none

noncomputable def ns_law_asked : List Str := ["number", "digit", "ends", "deed"]
noncomputable def code_law_asked : List S := [.set 1 (.bin .Mod (.bin .FloorDiv (.var 0) (.int (12))) (.int (64))),
  .set 2 (.cmp .Eq (.bin .Mod (.bin .FloorDiv (.var 0) (.int (768))) (.int (2))) (.int (0))),
  .set 3 (.bin .Mod (.var 0) (.int (12))),
  .ife (.cmp .Eq (.var 3) (.int (2))) [.ret (.lst1 (.tup3 (.bin .Mod (.bin .Add (.var 1) (.int (1))) (.int (64))) (.var 2) (.bool true)))] [],
  .ife (.cmp .In (.var 3) (.tup2 (.int (3)) (.int (4)))) [.ret (.lst1 (.tup3 .none (.var 2) (.bool false)))] [],
  .ife (.cmp .Eq (.var 3) (.int (5))) [.ret (.lst1 (.tup3 .none .none (.bool false)))] [],
  .ife (.cmp .In (.var 3) (.tup2 (.int (6)) (.int (7)))) [.ret (.lst1 (.str [97, 32, 115, 116, 97, 114]))] [],
  .ife (.cmp .Eq (.var 3) (.int (8))) [.ret (.lst2 (.str [97, 32, 115, 116, 97, 114]) (.tup3 (.var 1) (.var 2) (.bool false)))] [],
  .ife (.cmp .Eq (.var 3) (.int (9))) [.ret (.lst2 (.tup3 (.var 1) (.var 2) (.bool false)) (.str [97, 32, 115, 116, 97, 114]))] [],
  .ife (.cmp .Eq (.var 3) (.int (10))) [.ret (.lst1 (.tup3 (.bin .Mod (.bin .Add (.var 1) (.int (1))) (.int (64))) (.var 2) (.bool false)))] [],
  .ife (.cmp .Eq (.var 3) (.int (11))) [.ret .lst0] [],
  .ret (.lst1 (.tup3 (.var 1) (.var 2) (.bool false)))]

noncomputable def ns_law_written : List Str := ["item", "digit", "ends", "barred", "octet", "text"]
noncomputable def code_law_written : List S := [.ife (.cmp .Eq (.var 0) (.str [97, 32, 115, 116, 97, 114])) [.ret (.str [42])] [],
  .unp3 1 2 3 (.var 0),
  .ife (.cmp .Is (.var 1) .none) [.ife (.cmp .Is (.var 2) .none) [.ret (.str [63])] [],
  .ife (.var 2) [.ret (.bin .Add (.bin .Add (.bin .Add (.bin .Add (.bin .Add (.bin .Add (.bin .Add (.str [91]) (.chr (.int (0)))) (.str [45])) (.chr (.int (63)))) (.chr (.int (128)))) (.str [45])) (.chr (.int (191)))) (.str [93]))] [],
  .ret (.bin .Add (.bin .Add (.bin .Add (.bin .Add (.bin .Add (.bin .Add (.bin .Add (.str [91]) (.chr (.int (64)))) (.str [45])) (.chr (.int (127)))) (.chr (.int (192)))) (.str [45])) (.chr (.int (255)))) (.str [93]))] [],
  .set 4 (.ite (.var 2) (.var 1) (.bin .Add (.var 1) (.int (64)))),
  .set 5 (.bin .Add (.chr (.bin .Add (.var 4) (.int (128)))) (.chr (.var 4))),
  .ife (.cmp .Eq (.chr (.var 4)) (.str [93])) [.set 5 (.bin .Add (.chr (.var 4)) (.chr (.bin .Add (.var 4) (.int (128)))))] [],
  .ret (.bin .Add (.bin .Add (.ite (.var 3) (.str [91, 33]) (.str [91])) (.var 5)) (.str [93]))]

noncomputable def ns_law_fits : List Str := ["item", "told", "digit", "ends", "barred"]
noncomputable def code_law_fits : List S := [.unp3 2 3 4 (.var 0),
  .ret (.cmp .NotEq (.and (.cmp .In (.var 2) (.tup2 .none (.idx (.var 1) (.int (0))))) (.cmp .In (.var 3) (.tup2 .none (.idx (.var 1) (.int (1)))))) (.var 4))]

noncomputable def ns_law_sign : List Str := ["text", "place"]
noncomputable def code_law_sign : List S := [.ife (.cmp .Eq (.idx (.var 0) (.var 1)) (.str [92])) [.ret (.tup2 (.idx (.var 0) (.bin .Add (.var 1) (.int (1)))) (.bin .Add (.var 1) (.int (2))))] [],
  .ret (.tup2 (.idx (.var 0) (.var 1)) (.bin .Add (.var 1) (.int (1))))]

noncomputable def ns_law_sets : List Str := ["text", "place", "sets", "ranges", "barred", "low", "high"]
noncomputable def code_law_sets : List S := [.own0 2,
  .whl (.and (.cmp .In (.idx (.var 0) (.var 1)) (.str [91, 46])) (.cmp .NotEq (.slc (.var 0) (.var 1) (.bin .Add (.var 1) (.int (2)))) (.str [46, 42]))) [.own0 3,
  .set 4 (.cmp .Eq (.slc (.var 0) (.var 1) (.bin .Add (.var 1) (.int (2)))) (.str [91, 94])),
  .set 1 (.bin .Add (.var 1) (.ite (.var 4) (.int (2)) (.int (1)))),
  .ife (.cmp .Eq (.idx (.var 0) (.bin .Sub (.var 1) (.int (1)))) (.str [46])) [.app 3 (.tup2 (.chr (.int (0))) (.chr (.int (255))))] [.whl (.or (.cmp .Eq (.var 3) .lst0) (.cmp .NotEq (.idx (.var 0) (.var 1)) (.str [93]))) [.unp2 5 1 (.call2 "_law_sign" (.var 0) (.var 1)),
  .set 6 (.var 5),
  .ife (.and (.cmp .Eq (.idx (.var 0) (.var 1)) (.str [45])) (.cmp .NotEq (.idx (.var 0) (.bin .Add (.var 1) (.int (1)))) (.str [93]))) [.unp2 6 1 (.call2 "_law_sign" (.var 0) (.bin .Add (.var 1) (.int (1))))] [],
  .app 3 (.tup2 (.var 5) (.var 6))],
  .set 1 (.bin .Add (.var 1) (.int (1)))],
  .frz 3,
  .app 2 (.tup2 (.var 4) (.var 3))],
  .frz 2,
  .ret (.tup2 (.var 2) (.var 1))]

noncomputable def ns_law_pieces : List Str := ["text", "sets", "place", "pieces"]
noncomputable def code_law_pieces : List S := [.unp2 1 2 (.call2 "_law_sets" (.var 0) (.int (4))),
  .own1 3 (.var 1),
  .whl (.cmp .Eq (.slc (.var 0) (.var 2) (.bin .Add (.var 2) (.int (6)))) (.str [40, 63, 62, 46, 42, 63])) [.unp2 1 2 (.call2 "_law_sets" (.var 0) (.bin .Add (.var 2) (.int (6)))),
  .app 3 (.var 1),
  .ife (.or (.cmp .NotEq (.idx (.var 0) (.var 2)) (.str [41])) (.cmp .NotIn (.idx (.var 0) (.bin .Add (.var 2) (.int (1)))) (.str [40, 46]))) [.ret .lst0] [],
  .set 2 (.bin .Add (.var 2) (.int (1)))],
  .ife (.cmp .Eq (.slc (.var 0) (.var 2) (.bin .Add (.var 2) (.int (2)))) (.str [46, 42])) [.unp2 1 2 (.call2 "_law_sets" (.var 0) (.bin .Add (.var 2) (.int (2)))),
  .app 3 (.var 1)] [],
  .frz 3,
  .ret (.ite (.and (.cmp .Eq (.slc (.var 0) .none (.int (4))) (.str [40, 63, 115, 58])) (.cmp .Eq (.slc (.var 0) (.var 2) .none) (.str [41, 92, 90]))) (.var 3) .lst0)]

noncomputable def ns_law_takes : List Str := ["pieces", "name", "place", "sets", "last"]
noncomputable def code_law_takes : List S := [.ife (.not (.call3 "_law_lies" (.idx (.var 0) (.int (0))) (.var 1) (.int (0)))) [.ret (.bool false)] [],
  .set 2 (.len (.idx (.var 0) (.int (0)))),
  .ife (.cmp .Eq (.len (.var 0)) (.int (1))) [.ret (.cmp .Eq (.var 2) (.len (.var 1)))] [],
  .forl 3 (.slc (.var 0) (.int (1)) (.int (-1))) [.whl (.not (.call3 "_law_lies" (.var 3) (.var 1) (.var 2))) [.set 2 (.bin .Add (.var 2) (.int (1))),
  .ife (.cmp .Gt (.var 2) (.len (.var 1))) [.ret (.bool false)] []],
  .set 2 (.bin .Add (.var 2) (.len (.var 3)))],
  .set 4 (.bin .Sub (.len (.var 1)) (.len (.idx (.var 0) (.int (-1))))),
  .ret (.and (.cmp .LtE (.var 2) (.var 4)) (.call3 "_law_lies" (.idx (.var 0) (.int (-1))) (.var 1) (.var 4)))]

noncomputable def ns_join_translated_parts : List Str := ["inp", "STAR", "res", "add", "i", "n", "fixed"]
noncomputable def code_join_translated_parts : List S := [.own0 2,
  .bnd 3 2,
  .swp 4 5 (.int (0)) (.len (.var 0)),
  .whl (.and (.cmp .Lt (.var 4) (.var 5)) (.cmp .IsNot (.idx (.var 0) (.var 4)) (.var 1))) [.add 3 (.idx (.var 0) (.var 4)),
  .aug .Add 4 (.int (1))],
  .whl (.cmp .Lt (.var 4) (.var 5)) [.asr (.cmp .Is (.idx (.var 0) (.var 4)) (.var 1)),
  .aug .Add 4 (.int (1)),
  .ife (.cmp .Eq (.var 4) (.var 5)) [.add 3 (.str [46, 42]),
  .brk] [],
  .asr (.cmp .IsNot (.idx (.var 0) (.var 4)) (.var 1)),
  .own0 6,
  .whl (.and (.cmp .Lt (.var 4) (.var 5)) (.cmp .IsNot (.idx (.var 0) (.var 4)) (.var 1))) [.app 6 (.idx (.var 0) (.var 4)),
  .aug .Add 4 (.int (1))],
  .set 6 (.join [] (.var 6)),
  .ife (.cmp .Eq (.var 4) (.var 5)) [.add 3 (.str [46, 42]),
  .add 3 (.var 6)] [.add 3 (.cat3 (.str [40, 63, 62, 46, 42, 63]) (.var 6) (.str [41]))]],
  .asr (.cmp .Eq (.var 4) (.var 5)),
  .set 2 (.join [] (.var 2)),
  .ret (.cat3 (.str [40, 63, 115, 58]) (.var 2) (.str [41, 92, 90]))]

noncomputable def ns_law_answers : List Str := ["asked", "digits", "answers", "item", "told", "place"]
noncomputable def code_law_answers : List S := [.set 2 (.bin .Add (.comp 4 [] (.bool false) (.var 1)) (.lst1 (.bool true))),
  .forl 3 (.rev (.var 0)) [.ife (.cmp .Eq (.var 3) (.str [97, 32, 115, 116, 97, 114])) [.set 2 (.compr 5 [2] (.cmp .In (.bool true) (.slc (.var 2) (.var 5) .none)) (.len (.var 2)))] [.set 2 (.bin .Add (.compr 5 [2, 1, 3] (.and (.idx (.var 2) (.bin .Add (.var 5) (.int (1)))) (.call2 "_law_fits" (.var 3) (.idx (.var 1) (.var 5)))) (.len (.var 1))) (.lst1 (.bool false)))]],
  .ret (.var 2)]

noncomputable def ns_law_lies : List Str := ["sets", "name", "place", "k", "barred", "ranges", "low", "high"]
noncomputable def code_law_lies : List S := [.ife (.cmp .Gt (.bin .Add (.var 2) (.len (.var 0))) (.len (.var 1))) [.ret (.bool false)] [],
  .forr 3 (.len (.var 0)) [.unp2 4 5 (.idx (.var 0) (.var 3)),
  .ife (.cmp .Eq (.cmp .NotEq (.compc 6 7 [3, 1, 2] (.cmp3 .LtE .LtE (.var 6) (.idx (.var 1) (.bin .Add (.var 2) (.var 3))) (.var 7)) (.var 5)) .lst0) (.var 4)) [.ret (.bool false)] []],
  .ret (.bool true)]

noncomputable def ns_translate : List Str := ["pat", "STAR", "QUESTION_MARK", "res", "add", "i", "n", "c", "j", "stuff", "chunks", "k", "chunk"]
noncomputable def code_translate : List S := [.own0 3,
  .bnd 4 3,
  .swp 5 6 (.int (0)) (.len (.var 0)),
  .whl (.cmp .Lt (.var 5) (.var 6)) [.set 7 (.idx (.var 0) (.var 5)),
  .set 5 (.bin .Add (.var 5) (.int (1))),
  .ife (.cmp .Eq (.var 7) (.str [42])) [.ife (.or (.not (.var 3)) (.cmp .IsNot (.idx (.var 3) (.int (-1))) (.var 1))) [.add 4 (.var 1)] []] [.ife (.cmp .Eq (.var 7) (.str [63])) [.add 4 (.var 2)] [.ife (.cmp .Eq (.var 7) (.str [91])) [.set 8 (.var 5),
  .ife (.and (.cmp .Lt (.var 8) (.var 6)) (.cmp .Eq (.idx (.var 0) (.var 8)) (.str [33]))) [.set 8 (.bin .Add (.var 8) (.int (1)))] [],
  .ife (.and (.cmp .Lt (.var 8) (.var 6)) (.cmp .Eq (.idx (.var 0) (.var 8)) (.str [93]))) [.set 8 (.bin .Add (.var 8) (.int (1)))] [],
  .whl (.and (.cmp .Lt (.var 8) (.var 6)) (.cmp .NotEq (.idx (.var 0) (.var 8)) (.str [93]))) [.set 8 (.bin .Add (.var 8) (.int (1)))],
  .ife (.cmp .GtE (.var 8) (.var 6)) [.add 4 (.str [92, 91])] [.set 9 (.slc (.var 0) (.var 5) (.var 8)),
  .ife (.cmp .NotIn (.str [45]) (.var 9)) [.set 9 (.repl (.var 9) [92] [92, 92])] [.own0 10,
  .set 11 (.ite (.cmp .Eq (.idx (.var 0) (.var 5)) (.str [33])) (.bin .Add (.var 5) (.int (2))) (.bin .Add (.var 5) (.int (1)))),
  .whl (.bool true) [.set 11 (.find (.var 0) 45 (.var 11) (.var 8)),
  .ife (.cmp .Lt (.var 11) (.int (0))) [.brk] [],
  .app 10 (.slc (.var 0) (.var 5) (.var 11)),
  .set 5 (.bin .Add (.var 11) (.int (1))),
  .set 11 (.bin .Add (.var 11) (.int (3)))],
  .set 12 (.slc (.var 0) (.var 5) (.var 8)),
  .ife (.var 12) [.app 10 (.var 12)] [.spec (lastF 10 [45])],
  .spec (downF no 11 (.bin .Sub (.len (.var 10)) (.int 1)) [.ife (.cmp .Gt (.idx (.idx (.var 10) (.bin .Sub (.var 11) (.int 1))) (.int (-1))) (.idx (.idx (.var 10) (.var 11)) (.int 0))) [.bot] []] 100),
  .spec (genF 9 10)],
  .spec (subF 9),
  .set 5 (.bin .Add (.var 8) (.int (1))),
  .ife (.not (.var 9)) [.add 4 (.str [40, 63, 33, 41])] [.ife (.cmp .Eq (.var 9) (.str [33])) [.add 4 (.str [46])] [.ife (.cmp .Eq (.idx (.var 9) (.int (0))) (.str [33])) [.set 9 (.bin .Add (.str [94]) (.slc (.var 9) (.int (1)) .none))] [.ife (.cmp .In (.idx (.var 9) (.int (0))) (.tup2 (.str [94]) (.str [91]))) [.set 9 (.bin .Add (.str [92]) (.var 9))] []],
  .add 4 (.cat3 (.str [91]) (.var 9) (.str [93]))]]]] [.add 4 (.call1 "escape" (.var 7))]]]],
  .asr (.cmp .Eq (.var 5) (.var 6)),
  .frz 3,
  .ret (.var 3)]

noncomputable def ns_law_digits : List Str := ["octets", "digits", "turn", "left", "number", "size", "place"]
noncomputable def code_law_digits : List S := [.own0 1,
  .forr 2 (.len (.var 0)) [.ife (.cmp .Lt (.len (.var 1)) (.len (.var 0))) [.spec (threeF no (.slc (.var 0) (.len (.var 1)) .none) (.bin .Sub (.len (.var 0)) (.len (.var 1))) 3 4 5),
  .ife (.cmp .NotEq (.bin .FloorDiv (.var 4) (.bin .Pow (.int (64)) (.var 5))) (.int (0))) [.ret .lst0] [],
  .forr 6 (.var 5) [.app 1 (.tup2 (.bin .Mod (.bin .FloorDiv (.var 4) (.bin .Pow (.int (64)) (.bin .Sub (.bin .Sub (.var 5) (.int (1))) (.var 6)))) (.int (64))) (.cmp .Eq (.var 6) (.bin .Sub (.var 5) (.int (1)))))]] []],
  .frz 1,
  .ret (.var 1)]
end Mine
end

/-! S37 -/
section
open PySem PySem.W PyProof.Rows
set_option maxRecDepth 100000

namespace Mine

theorem h_law_asked : (defOf prg "_law_asked").isSome = true := by decide +kernel
noncomputable abbrev d_law_asked : DefRec := dr "_law_asked" h_law_asked
theorem h_law_written : (defOf prg "_law_written").isSome = true := by decide +kernel
noncomputable abbrev d_law_written : DefRec := dr "_law_written" h_law_written
theorem h_law_fits : (defOf prg "_law_fits").isSome = true := by decide +kernel
noncomputable abbrev d_law_fits : DefRec := dr "_law_fits" h_law_fits
theorem h_law_sign : (defOf prg "_law_sign").isSome = true := by decide +kernel
noncomputable abbrev d_law_sign : DefRec := dr "_law_sign" h_law_sign
theorem h_law_lies : (defOf prg "_law_lies").isSome = true := by decide +kernel
noncomputable abbrev d_law_lies : DefRec := dr "_law_lies" h_law_lies
theorem h_law_sets : (defOf prg "_law_sets").isSome = true := by decide +kernel
noncomputable abbrev d_law_sets : DefRec := dr "_law_sets" h_law_sets
theorem h_law_pieces : (defOf prg "_law_pieces").isSome = true := by decide +kernel
noncomputable abbrev d_law_pieces : DefRec := dr "_law_pieces" h_law_pieces
theorem h_law_takes : (defOf prg "_law_takes").isSome = true := by decide +kernel
noncomputable abbrev d_law_takes : DefRec := dr "_law_takes" h_law_takes
theorem h_law_answers : (defOf prg "_law_answers").isSome = true := by decide +kernel
noncomputable abbrev d_law_answers : DefRec := dr "_law_answers" h_law_answers
theorem h_join_translated_parts : (defOf prg "_join_translated_parts").isSome = true := by decide +kernel
noncomputable abbrev d_join_translated_parts : DefRec := dr "_join_translated_parts" h_join_translated_parts
theorem h_translate : (defOf prg "_translate").isSome = true := by decide +kernel
noncomputable abbrev d_translate : DefRec := dr "_translate" h_translate
theorem h_law_digits : (defOf prg "_law_digits").isSome = true := by decide +kernel
noncomputable abbrev d_law_digits : DefRec := dr "_law_digits" h_law_digits
theorem c_law_asked (C : CC) {cx : Cx} {env : Env} (F : C.Fr ns_law_asked env d_law_asked.scope.names) : (C.cS ns_law_asked [] [] (cx := cx) F 60 d_law_asked.body).map Subtype.val = some code_law_asked := by kernel_rfl
theorem c_law_written (C : CC) {cx : Cx} {env : Env} (F : C.Fr ns_law_written env d_law_written.scope.names) : (C.cS ns_law_written [] [] (cx := cx) F 60 d_law_written.body).map Subtype.val = some code_law_written := by kernel_rfl
theorem c_law_fits (C : CC) {cx : Cx} {env : Env} (F : C.Fr ns_law_fits env d_law_fits.scope.names) : (C.cS ns_law_fits [] [] (cx := cx) F 60 d_law_fits.body).map Subtype.val = some code_law_fits := by kernel_rfl
theorem c_law_sign (C : CC) {cx : Cx} {env : Env} (F : C.Fr ns_law_sign env d_law_sign.scope.names) : (C.cS ns_law_sign [] [] (cx := cx) F 60 d_law_sign.body).map Subtype.val = some code_law_sign := by kernel_rfl
theorem c_law_lies (C : CC) {cx : Cx} {env : Env} (F : C.Fr ns_law_lies env d_law_lies.scope.names) : (C.cS ns_law_lies [] [] (cx := cx) F 60 d_law_lies.body).map Subtype.val = some code_law_lies := by kernel_rfl
theorem c_law_sets (C : CC) {cx : Cx} {env : Env} (F : C.Fr ns_law_sets env d_law_sets.scope.names) : (C.cS ns_law_sets ["sets", "ranges"] [(195, 3), (196, 2)] (cx := cx) F 60 d_law_sets.body).map Subtype.val = some code_law_sets := by kernel_rfl
theorem c_law_pieces (C : CC) {cx : Cx} {env : Env} (F : C.Fr ns_law_pieces env d_law_pieces.scope.names) : (C.cS ns_law_pieces ["pieces"] [(209, 3)] (cx := cx) F 60 d_law_pieces.body).map Subtype.val = some code_law_pieces := by kernel_rfl
theorem c_law_takes (C : CC) {cx : Cx} {env : Env} (F : C.Fr ns_law_takes env d_law_takes.scope.names) : (C.cS ns_law_takes [] [] (cx := cx) F 60 d_law_takes.body).map Subtype.val = some code_law_takes := by kernel_rfl
theorem c_law_answers (C : CC) {cx : Cx} {env : Env} (F : C.Fr ns_law_answers env d_law_answers.scope.names) : (C.cS ns_law_answers [] [] (cx := cx) F 60 d_law_answers.body).map Subtype.val = some code_law_answers := by kernel_rfl
theorem c_join_translated_parts (C : CC) {cx : Cx} {env : Env} (F : C.Fr ns_join_translated_parts env d_join_translated_parts.scope.names) : (C.cS ns_join_translated_parts ["res", "fixed"] [] (cx := cx) F 60 d_join_translated_parts.body).map Subtype.val = some code_join_translated_parts := by kernel_rfl

/-- the defs that are told by codes alone -/
noncomputable def tbl : List (Str × Nat × List S) := [("_law_asked", 1, code_law_asked), ("_law_written", 1, code_law_written), ("_law_fits", 2, code_law_fits), ("_law_sign", 2, code_law_sign), ("_law_lies", 3, code_law_lies), ("_law_sets", 2, code_law_sets), ("_law_pieces", 1, code_law_pieces), ("_law_takes", 2, code_law_takes), ("_law_answers", 2, code_law_answers), ("_join_translated_parts", 2, code_join_translated_parts), ("_law_digits", 1, code_law_digits)]
noncomputable def fuel : Nat := 2000
noncomputable def Φs : Nat → Str → List D → Option D
  | 0 => no
  | k + 1 => fun f ds => match tbl.lookup f with
    | some (ar, code) => runFn (Φs k) fuel ar code ds
    | none => none
end Mine
end

/-! S38 -/
section
open PySem PySem.W PyProof.Rows
set_option maxRecDepth 100000

namespace Mine
section
variable {w : World} {mg mb : Str → Option Value} {hG : Heap} {Φ : Str → List D → Option D}

theorem okA_line {k : Nat} {A : Around} (hA : OkA k A) : A.units < cLine := by have := hA.2.2; unfold cLine; omega

/-- what the ground holds -/
structure Gnd (mg mb : Str → Option Value) (hG : Heap) : Prop where
  built : Built mg mb
  defs : ∀ f d, defOf prg f = some (d, []) → DefAt mg hG f d.params d.body d.scope

theorem gnd_at (g : Gnd mg mb hG) {f : Str} (h : (defOf prg f).isSome = true) (h2 : ((defOf prg f).get h).2 = []) : DefAt mg hG f (dr f h).params (dr f h).body (dr f h).scope := by
  refine g.defs f _ ?_
  have := Option.some_get h
  rw [← this]
  unfold dr
  rw [← h2]

theorem f_gen (g : Gnd mg mb hG) {k ar : Nat} {f : Str} (h : (defOf prg f).isSome = true) {ns ow : List Str} {fz : List (Nat × Nat)} {code : List S} (h2 : ((defOf prg f).get h).2 = []) (sh : Shape ns (ns.take ar) (dr f h).scope) (har : (ns.take ar).length = ar)
    (hbind : ∀ pm cd doc vs, vs.length = ar → bindArgs (Calls.docDef f (dr f h).params (dr f h).body (dr f h).scope pm cd doc) ⟨vs, []⟩ = pure ((ns.take ar).zip vs))
    (hc : ∀ (C : CC) {cx : Cx} {env : Env} (F : C.Fr ns env (dr f h).scope.names), (C.cS ns ow fz (cx := cx) F 60 (dr f h).body).map Subtype.val = some code) (F : ∀ f, FSpec prg w mg mb hG k f (Φ f)) : FSpec prg w mg mb hG (k + 1) f (runFn Φ fuel ar code) := by
  have := fspec_of (prog := prg) (w := w) (mb := mb) (Φ := Φ) (k := k) (fuel := fuel) (code := code) (gnd_at g h h2) sh (fun pm cd doc vs hv => hbind pm cd doc vs (hv.trans har)) fun A env cx hA O hn => val_of (hc ⟨prg, w, mg, mb, hG, A, Φ, k, hA, okA_line hA, g.built, F⟩ ⟨O, hn⟩)
  rw [har] at this
  exact this

theorem f_law_asked (g : Gnd mg mb hG) {k} (F : ∀ f, FSpec prg w mg mb hG k f (Φ f)) : FSpec prg w mg mb hG (k + 1) "_law_asked" (runFn Φ fuel 1 code_law_asked) :=
  f_gen g h_law_asked rfl ⟨by decide +kernel, rfl, by decide +kernel, rfl, rfl, rfl⟩ rfl (fun _ _ _ _ hv => let ⟨_, e⟩ := len_1 hv; e ▸ rfl) c_law_asked F
theorem f_law_written (g : Gnd mg mb hG) {k} (F : ∀ f, FSpec prg w mg mb hG k f (Φ f)) : FSpec prg w mg mb hG (k + 1) "_law_written" (runFn Φ fuel 1 code_law_written) :=
  f_gen g h_law_written rfl ⟨by decide +kernel, rfl, by decide +kernel, rfl, rfl, rfl⟩ rfl (fun _ _ _ _ hv => let ⟨_, e⟩ := len_1 hv; e ▸ rfl) c_law_written F
theorem f_law_fits (g : Gnd mg mb hG) {k} (F : ∀ f, FSpec prg w mg mb hG k f (Φ f)) : FSpec prg w mg mb hG (k + 1) "_law_fits" (runFn Φ fuel 2 code_law_fits) :=
  f_gen g h_law_fits rfl ⟨by decide +kernel, rfl, by decide +kernel, rfl, rfl, rfl⟩ rfl (fun _ _ _ _ hv => let ⟨_, _, e⟩ := len_2 hv; e ▸ rfl) c_law_fits F
theorem f_law_sign (g : Gnd mg mb hG) {k} (F : ∀ f, FSpec prg w mg mb hG k f (Φ f)) : FSpec prg w mg mb hG (k + 1) "_law_sign" (runFn Φ fuel 2 code_law_sign) :=
  f_gen g h_law_sign rfl ⟨by decide +kernel, rfl, by decide +kernel, rfl, rfl, rfl⟩ rfl (fun _ _ _ _ hv => let ⟨_, _, e⟩ := len_2 hv; e ▸ rfl) c_law_sign F
theorem f_law_lies (g : Gnd mg mb hG) {k} (F : ∀ f, FSpec prg w mg mb hG k f (Φ f)) : FSpec prg w mg mb hG (k + 1) "_law_lies" (runFn Φ fuel 3 code_law_lies) :=
  f_gen g h_law_lies rfl ⟨by decide +kernel, rfl, by decide +kernel, rfl, rfl, rfl⟩ rfl (fun _ _ _ _ hv => let ⟨_, _, _, e⟩ := len_3 hv; e ▸ rfl) c_law_lies F
theorem f_law_sets (g : Gnd mg mb hG) {k} (F : ∀ f, FSpec prg w mg mb hG k f (Φ f)) : FSpec prg w mg mb hG (k + 1) "_law_sets" (runFn Φ fuel 2 code_law_sets) :=
  f_gen g h_law_sets rfl ⟨by decide +kernel, rfl, by decide +kernel, rfl, rfl, rfl⟩ rfl (fun _ _ _ _ hv => let ⟨_, _, e⟩ := len_2 hv; e ▸ rfl) c_law_sets F
theorem f_law_pieces (g : Gnd mg mb hG) {k} (F : ∀ f, FSpec prg w mg mb hG k f (Φ f)) : FSpec prg w mg mb hG (k + 1) "_law_pieces" (runFn Φ fuel 1 code_law_pieces) :=
  f_gen g h_law_pieces rfl ⟨by decide +kernel, rfl, by decide +kernel, rfl, rfl, rfl⟩ rfl (fun _ _ _ _ hv => let ⟨_, e⟩ := len_1 hv; e ▸ rfl) c_law_pieces F
theorem f_law_takes (g : Gnd mg mb hG) {k} (F : ∀ f, FSpec prg w mg mb hG k f (Φ f)) : FSpec prg w mg mb hG (k + 1) "_law_takes" (runFn Φ fuel 2 code_law_takes) :=
  f_gen g h_law_takes rfl ⟨by decide +kernel, rfl, by decide +kernel, rfl, rfl, rfl⟩ rfl (fun _ _ _ _ hv => let ⟨_, _, e⟩ := len_2 hv; e ▸ rfl) c_law_takes F
theorem f_law_answers (g : Gnd mg mb hG) {k} (F : ∀ f, FSpec prg w mg mb hG k f (Φ f)) : FSpec prg w mg mb hG (k + 1) "_law_answers" (runFn Φ fuel 2 code_law_answers) :=
  f_gen g h_law_answers rfl ⟨by decide +kernel, rfl, by decide +kernel, rfl, rfl, rfl⟩ rfl (fun _ _ _ _ hv => let ⟨_, _, e⟩ := len_2 hv; e ▸ rfl) c_law_answers F
theorem f_join_translated_parts (g : Gnd mg mb hG) {k} (F : ∀ f, FSpec prg w mg mb hG k f (Φ f)) : FSpec prg w mg mb hG (k + 1) "_join_translated_parts" (runFn Φ fuel 2 code_join_translated_parts) :=
  f_gen g h_join_translated_parts rfl ⟨by decide +kernel, rfl, by decide +kernel, rfl, rfl, rfl⟩ rfl (fun _ _ _ _ hv => let ⟨_, _, e⟩ := len_2 hv; e ▸ rfl) c_join_translated_parts F
end
end Mine
end

/-! S39 -/
section
open PySem PySem.W PyProof.Rows
set_option maxRecDepth 100000

namespace Mine
section
variable {w : World} {mg mb : Str → Option Value} {hG : Heap} {Φ : Str → List D → Option D}

theorem three_no {xl xn xs : Nat} : threeF Φ (.slc (.var 0) (.len (.var 1)) .none) (.bin .Sub (.len (.var 0)) (.len (.var 1))) xl xn xs = threeF no (.slc (.var 0) (.len (.var 1)) .none) (.bin .Sub (.len (.var 0)) (.len (.var 1))) xl xn xs := rfl

theorem h_pv : (defOf prg "_parse_varint").isSome = true := by decide +kernel

theorem pv_spec (g : Gnd mg mb hG) {k} (F : ∀ f, FSpec prg w mg mb hG k f (Φ f)) : PvSpec prg w mg mb hG (k + 1) "_parse_varint" := by
  refine pvspec_of (Φ := Φ) (ni := "iterator") (nb := "b") (nv := "val") (gnd_at g h_pv rfl) ⟨by decide +kernel, rfl, by decide +kernel, rfl, rfl, rfl⟩ (fun pm cd doc v => rfl) fun A env cx hA O hn => ?_
  let C : CC := ⟨prg, w, mg, mb, hG, A, Φ, k, hA, okA_line hA, g.built, F⟩
  have Fr : C.Fr ["iterator", "b", "val"] env (dr "_parse_varint" h_pv).scope.names := ⟨O, hn⟩
  have cs : ∀ {st : Stmt} {c : S}, (C.cSt ["iterator", "b", "val"] [] (cx := cx) Fr (fun _ => none) 60 st).map Subtype.val = some c → SO prg w mg mb hG A Φ (nmAt ["iterator", "b", "val"]) 3 cx env st c := val_of
  have ce : ∀ {e : Expr} {c : E}, (C.cE ["iterator", "b", "val"] 60 (dr "_parse_varint" h_pv).scope.names e).map Subtype.val = some c → Snd prg w mg mb hG A Φ (nmAt ["iterator", "b", "val"]) env e c := fun h => Fr.e (val_of h)
  have kd : ∀ {n : Str} {q : NameKind}, (dr "_parse_varint" h_pv).scope.names.lookup n = some q → env.kindOf n = some q := fun h => by unfold Env.kindOf; rw [hn]; exact h
  have nx : ∀ {p p1 p2 cp pos : Pos}, NextOk prg w A mg mb hG env cx (nmAt ["iterator", "b", "val"]) 3 (.Assign [.Name "b" p] (.Call (.Name "next" p1) [.Name "iterator" p2] [] cp) pos) :=
    fun K X α σ s I ax vs d r hσ J hK hg it => next_stmt (x := 1) (y := 0) O g.built (kd rfl) rfl (by decide +kernel) rfl (by decide) (.inl (kd rfl)) rfl hσ J hK hg it
  exact ⟨nx, nx, cs (by kernel_rfl), ce (by kernel_rfl), cs (by kernel_rfl), cs (by kernel_rfl), ce (by kernel_rfl)⟩

theorem f_law_digits (g : Gnd mg mb hG) {k} (F : ∀ f, FSpec prg w mg mb hG (k + 1) f (Φ f)) (P : PvSpec prg w mg mb hG (k + 1) "_parse_varint") : FSpec prg w mg mb hG (k + 2) "_law_digits" (runFn Φ fuel 1 code_law_digits) := by
  refine fspec_of (ns := ns_law_digits) (ps := ["octets"]) (gnd_at g h_law_digits rfl) ⟨by decide +kernel, rfl, by decide +kernel, rfl, rfl, rfl⟩ (fun _ _ _ _ hv => let ⟨_, e⟩ := len_1 hv; e ▸ rfl) fun A env cx hA O hn => ?_
  let C : CC := ⟨prg, w, mg, mb, hG, A, Φ, k + 1, hA, okA_line hA, g.built, F⟩
  have Fr : C.Fr ns_law_digits env d_law_digits.scope.names := ⟨O, hn⟩
  have kd : ∀ {n : Str} {q : NameKind}, d_law_digits.scope.names.lookup n = some q → env.kindOf n = some q := fun h => by unfold Env.kindOf; rw [hn]; exact h
  have cs : ∀ {st : Stmt} {c : S}, (C.cSt ns_law_digits ["digits"] (cx := cx) Fr (C.cS ns_law_digits ["digits"] [] Fr 60) 60 st).map Subtype.val = some c → SO prg w mg mb hG A Φ (nmAt ns_law_digits) ns_law_digits.length cx env st c := val_of
  have ce : ∀ {e : Expr} {c : E}, (C.cE ns_law_digits 60 d_law_digits.scope.names e).map Subtype.val = some c → Snd prg w mg mb hG A Φ (nmAt ns_law_digits) env e c := fun h => Fr.e (val_of h)
  refine ss_cons (cs (by kernel_rfl)) (ss_cons ?_ (ss_frz (ss_cons (cs (by kernel_rfl)) ss_nil)))
  refine so_forr O g.built rfl (kd rfl) rfl (ce (by kernel_rfl)) rfl (by decide) (.inl (kd rfl)) (ss_cons (so_ife (ce (by kernel_rfl)) ?_ ss_nil) ss_nil)
  rw [← three_no (Φ := Φ)]
  exact ss_three O hA g.built P (ce (by kernel_rfl)) rfl (ce (by kernel_rfl)) rfl rfl rfl (by decide) (by decide) (by decide) (.inl (kd rfl)) (.inl (kd rfl)) (.inl (kd rfl)) (kd rfl) rfl (kd rfl) rfl (kd rfl) rfl (kd rfl) (by decide +kernel) (by decide +kernel) (by decide)
    (ss_cons (cs (by kernel_rfl)) (ss_cons (cs (by kernel_rfl)) ss_nil))

/-- all levels -/
theorem levels (g : Gnd mg mb hG) : ∀ k f, FSpec prg w mg mb hG (2 * k) f (Φs k f)
  | 0, f => fun ds d h => by cases h
  | k + 1, f => by
    have F := levels g k
    have F1 : ∀ f, FSpec prg w mg mb hG (2 * k + 1) f (Φs k f) := fun f ds d h => by
      obtain ⟨a, ha, q⟩ := F f ds d h
      exact ⟨a, ha, fun A s X vs hA => q A s X vs ⟨hA.1, by have := hA.2.1; omega, by have := hA.2.2; omega⟩⟩
    have all : ∀ q ∈ tbl, FSpec prg w mg mb hG (2 * k + 1 + 1) q.1 (runFn (Φs k) fuel q.2.1 q.2.2) :=
      List.forall_mem_cons.mpr ⟨f_law_asked g F1, List.forall_mem_cons.mpr ⟨f_law_written g F1, List.forall_mem_cons.mpr ⟨f_law_fits g F1, List.forall_mem_cons.mpr ⟨f_law_sign g F1, List.forall_mem_cons.mpr ⟨f_law_lies g F1, List.forall_mem_cons.mpr ⟨f_law_sets g F1,
        List.forall_mem_cons.mpr ⟨f_law_pieces g F1, List.forall_mem_cons.mpr ⟨f_law_takes g F1, List.forall_mem_cons.mpr ⟨f_law_answers g F1, List.forall_mem_cons.mpr ⟨f_join_translated_parts g F1, List.forall_mem_cons.mpr ⟨f_law_digits g F1 (pv_spec g F), fun _ h => nomatch h⟩⟩⟩⟩⟩⟩⟩⟩⟩⟩⟩
    show FSpec prg w mg mb hG (2 * k + 1 + 1) f (Φs (k + 1) f)
    intro ds d h
    unfold Φs at h
    cases hl : tbl.lookup f with
    | none => rw [hl] at h; exact nope h
    | some q => rw [hl] at h; exact all _ (PySem.mem_of_lookup hl) ds d h
end
end Mine
end

/-! S40 -/
section
open PySem PySem.W PyProof.Rows
set_option maxRecDepth 100000

namespace Mine
section
variable {w : World} {mg mb : Str → Option Value} {hG : Heap} {Φ : Str → List D → Option D} {A : Around} {env : Env} {cx : Cx}

noncomputable def csT : List (Pos × Str) := [(⟨72, 39, 72, 76⟩, "_translate.<locals>.<lambda>"), (⟨71, 37, 71, 98⟩, "_translate.<locals>.<genexpr>")]

theorem no_spec {k : Nat} : ∀ f, FSpec prg w mg mb hG k f (no f) := fun f ds d h => by cases h

theorem ss_translate (g : Gnd mg mb hG) {k : Nat} {c P : Addr} (hA : OkA (k + 1) A) (O : Ok A (nmAt ns_translate) ns_translate.length env) (hn : env.scope.names = d_translate.scope.names)
    (hY : ∀ a, cx.Y a ↔ a = tabA) (hT : cx.T = Tgood csT) (hRg : ∀ s s' : Shared, cx.R s → s'.os = s.os → (AllBare s.gens → AllBare s'.gens) → cx.R s')
    (hcode : env.code = .ref c) (hqual : env.qual = "_translate.<locals>.") (L : LamG mg hG c) (hP : PatG mg hG "_twin_re_1" P) :
    SS prg w mg mb hG A no (nmAt ns_translate) ns_translate.length cx env d_translate.body code_translate := by
  have F : ∀ f, FSpec prg w mg mb hG (k + 1) f (no f) := no_spec
  let C : CC := ⟨prg, w, mg, mb, hG, A, no, k + 1, hA, okA_line hA, g.built, F⟩
  have Fr : C.Fr ns_translate env d_translate.scope.names := ⟨O, hn⟩
  have kd : ∀ {n : Str} {q : NameKind}, d_translate.scope.names.lookup n = some q → env.kindOf n = some q := fun h => by unfold Env.kindOf; rw [hn]; exact h
  have cs : ∀ {st : Stmt} {c : S}, (C.cSt ns_translate ["res", "chunks"] (cx := cx) Fr (C.cS ns_translate ["res", "chunks"] [] Fr 60) 60 st).map Subtype.val = some c → SO prg w mg mb hG A no (nmAt ns_translate) ns_translate.length cx env st c := val_of
  have ce : ∀ {e : Expr} {c : E}, (C.cE ns_translate 60 d_translate.scope.names e).map Subtype.val = some c → Snd prg w mg mb hG A no (nmAt ns_translate) env e c := fun h => Fr.e (val_of h)
  have q1 : ∀ pq ∈ csT, pq.1.line = 72 → pq.1.col = 39 → pq.2 = env.qual ++ "<lambda>" := by rw [hqual]; decide +kernel
  have q2 : ∀ pq ∈ csT, pq.1.line = 71 → pq.1.col = 37 → pq.2 = env.qual ++ "<genexpr>" := by rw [hqual]; decide +kernel
  have q3 : ((⟨72, 39, 72, 76⟩ : Pos), env.qual ++ "<lambda>") ∈ csT := by rw [hqual]; decide +kernel
  refine ss_cons (cs (by kernel_rfl)) (ss_cons (cs (by kernel_rfl)) (ss_cons (cs (by kernel_rfl)) (ss_cons (so_whl (ce (by kernel_rfl)) ?_) (ss_cons (cs (by kernel_rfl)) (ss_frz (ss_cons (cs (by kernel_rfl)) ss_nil))))))
  refine ss_cons (cs (by kernel_rfl)) (ss_cons (cs (by kernel_rfl)) (ss_cons (so_ife (ce (by kernel_rfl)) (ss_cons (cs (by kernel_rfl)) ss_nil) (ss_cons (so_ife (ce (by kernel_rfl)) (ss_cons (cs (by kernel_rfl)) ss_nil) (ss_cons (so_ife (ce (by kernel_rfl)) ?_ (ss_cons (cs (by kernel_rfl)) ss_nil)) ss_nil)) ss_nil)) ss_nil))
  refine ss_cons (cs (by kernel_rfl)) (ss_cons (cs (by kernel_rfl)) (ss_cons (cs (by kernel_rfl)) (ss_cons (cs (by kernel_rfl)) (ss_cons (so_ife (ce (by kernel_rfl)) (ss_cons (cs (by kernel_rfl)) ss_nil) ?_) ss_nil))))
  refine ss_cons (cs (by kernel_rfl)) (ss_cons (so_ife (ce (by kernel_rfl)) (ss_cons (cs (by kernel_rfl)) ss_nil) ?_) (ss_cons ?_ (ss_cons (cs (by kernel_rfl)) (ss_cons (cs (by kernel_rfl)) ss_nil))))
  · refine ss_cons (cs (by kernel_rfl)) (ss_cons (cs (by kernel_rfl)) (ss_cons (cs (by kernel_rfl)) (ss_cons (cs (by kernel_rfl)) (ss_cons (so_ife (ce (by kernel_rfl)) (ss_cons (cs (by kernel_rfl)) ss_nil) (ss_cons ?_ ss_nil)) (ss_cons ?_ (ss_cons ?_ ss_nil))))))
    · exact so_last O (by decide +kernel) (ce (by kernel_rfl)) (ce (by kernel_rfl)) rfl (fun _ _ _ => rfl)
    · exact so_down O g.built (kd rfl) rfl rfl rfl (ce (by kernel_rfl)) (ce (by kernel_rfl)) (ce (by kernel_rfl)) rfl (by decide) (.inl (kd rfl)) (ss_cons (so_ife (ce (by kernel_rfl)) (fun n K X α σ s σ' fl I h => by cases n <;> cases h) ss_nil) ss_nil)
    · exact so_gen (k := k) O hA hY hT q2 L hcode hRg (by decide +kernel) rfl rfl rfl ⟨rfl, rfl, rfl⟩ rfl (by decide) (.inl (kd rfl)) rfl
  · exact so_sub (k := k) O hA hY hT q3 q1 L hcode hP (by decide +kernel) (kd rfl) (by decide +kernel) rfl rfl rfl rfl (fun _ _ _ _ _ _ => rfl) rfl (by decide) (.inl (kd rfl))
end
end Mine
end

/-! S41 -/
section
open PySem PySem.W PyProof.Rows
set_option maxRecDepth 100000

namespace Mine

theorem mro_obj : mroOf (.type "object") = pure [.type "object"] := by rw [mroOf_type]; kernel_rfl
theorem lookup_obj_new : typeLookup (.type "object") "__new__" = pure (some (.builtin "object.__new__")) := by rw [typeLookup_type, builtinLookup_eq_fast]; kernel_rfl
theorem slot_obj_init : Slot "object" "__init__" "object.__init__" :=
  .of (owner := "object") (n := "__init__") (by rw [typeLookup_type, builtinLookup_eq_fast]; kernel_rfl) (by decide +kernel) (by decide +kernel) (by decide +kernel)
    (by first | exact .inl (by decide +kernel) | exact .inr (by decide +kernel)) (by rw [isSubtype_type]; kernel_rfl)
theorem called_obj : TypeCalled "object" "object.__new__" "object.__init__" :=
  ⟨by decide +kernel, by decide +kernel, ⟨_, _, mro_obj⟩, madeBy_type mro_obj lookup_obj_new (by decide +kernel), by decide +kernel, by rw [isSubtype_type]; kernel_rfl, slot_obj_init⟩
theorem typeCall_obj : checkTypeCall "object" ⟨[], []⟩ = pure () := by kernel_rfl
theorem newCall_obj : checkBuiltinCall "object.__new__" ⟨[.type "object"], []⟩ = pure () := by kernel_rfl
theorem entry_obj_new : entryFor table "object.__new__" = some Builtin.«object.__new__» := entryFor_of_tree (by kernel_rfl)
theorem args_obj_init (v : Value) : argsOk "object.__init__" ⟨[v], []⟩ := F.args_object_init_1 v

section
variable {prog : Program} {w : World} {A : Around} {E : Value → Shared → Prop} {s : Shared}
theorem obj_new : Meets (Builtin.«object.__new__» ⟨[.type "object"], []⟩) (fun _ R s => R (.ok (.ret (Value.ref s.heap.objs.size))) { s with heap := s.heap.push { cls := .type "object", data := .plain } }) :=
  Meets.of_wp fun prog w A R s h => by
    obtain ⟨hp, g, d, tk, os⟩ := s
    have hm := called_obj.made
    wp_walk
    exact ⟨_, rfl, h⟩
theorem obj_init {self : Value} : Meets (Builtin.«object.__init__» ⟨[self], []⟩) (fun _ R s => R (.ok (.ret .none)) s) :=
  Meets.of_wp fun prog w A R s hs => wpAny_pure ⟨_, rfl, hs⟩

theorem call_object {Q : Value → Shared → Prop} (h : Q (.ref s.heap.objs.size) { s with heap := s.heap.push { cls := .type "object", data := .plain } }) : wpAny (model prog w) A (call (.type "object") []) Q E s :=
  callType_meets called_obj typeCall_obj newCall_obj entry_obj_new F.entry_object_init obj_new (Q₁ := fun obj s₁ => s₁.TypeIs obj "object" ∧ Q obj s₁) ⟨⟨_, Heap.get?_push_size _ rfl, rfl⟩, h⟩ fun obj _ hq =>
    ⟨hq.1, args_obj_init obj, _, obj_init, rfl, hq.2⟩
end
end Mine
end

/-! S42 -/
section
open PySem PySem.W PyProof.Rows
set_option maxRecDepth 4000

namespace Mine
/-- what a call that may make functions leaves -/
noncomputable def TKeep (s : Shared) (X : Addr → Prop) (s' : Shared) : Prop :=
  (∀ b o, b ≠ tabA → s.heap.get? b = some o → s'.heap.get? b = some o) ∧ (∃ ps, s'.heap.get? tabA = some (tabObj ps) ∧ TriplesOk ps.toList ∧ Tgood csT s'.heap X ps) ∧ s.toks ≤ s'.toks ∧ s'.os = s.os ∧ (AllBare s.gens → AllBare s'.gens)

noncomputable def TSpec (prog : Program) (w : World) (mg mb : Str → Option Value) (hG : Heap) (k : Nat) (f : Str) (R : List D → D → Prop) : Prop :=
  ∀ (ds : List D) (d : D), R ds d → ∃ a, mg f = some (.ref a) ∧ ∀ (A : Around) (s : Shared) (X : Addr → Prop) (vs : List Value) (ps : Array Value), OkA k A → Bas mg mb hG s.heap → 1 ≤ s.toks → Alive X s.heap → X tabA → s.heap.get? tabA = some (tabObj ps) → TriplesOk ps.toList → Tgood csT s.heap X ps → DenL s.heap X ds vs →
    ∃ o fd, s.heap.get? a = some o ∧ o.data = .func fd ∧
      codeAny (model prog w) A (.call (.ref a) ⟨vs, []⟩) (fun r s' => ∃ v, r = .ok (.ret v) ∧ Den s'.heap X d v ∧ TKeep s X s') s

noncomputable def TDef (C : Addr → Prop) (mg : Str → Option Value) (hG : Heap) (f : Str) (params : Arguments) (body : List Stmt) (scope : Scope) : Prop :=
  ∃ a o pm cd doc, mg f = some (.ref a) ∧ a ≠ tabA ∧ hG.get? a = some o ∧ o.data = .func (Calls.docDef f params body scope pm (.ref cd) doc) ∧ cd ≠ tabA ∧ hG.CodeRec (.ref cd) f ∧ C cd

noncomputable def cxT (s : Shared) : Cx := ⟨fun a => a = tabA, fun s' => s'.os = s.os ∧ (AllBare s.gens → AllBare s'.gens), fun _ _ _ h => h, Tgood csT, fun _ _ _ _ _ m t => t.mono m⟩
theorem cxT_Y {s a} : (cxT s).Y a ↔ a = tabA := Iff.rfl
theorem cxT_R {s₀ : Shared} (s s' : Shared) (h : (cxT s₀).R s) (h1 : s'.os = s.os) (h2 : AllBare s.gens → AllBare s'.gens) : (cxT s₀).R s' := ⟨h1.trans h.1, fun b => h2 (h.2 b)⟩

section
variable {prog : Program} {w : World} {mg mb : Str → Option Value} {hG : Heap}

theorem gl_tab {b : Addr} (h : Gl hG b) : b ≠ tabA := by
  rcases h with rfl | rfl | rfl | ⟨h, _⟩
  · decide
  · decide
  · decide
  · exact h

theorem tspec_of {C : Addr → Prop} {k : Nat} {f : Str} {params : Arguments} {body : List Stmt} {scope : Scope} {ns ps : List Str} {R : List D → D → Prop} (hat : TDef C mg hG f params body scope) (sh : Shape ns ps scope)
    (hbind : ∀ pm cd doc vs, vs.length = ps.length → bindArgs (Calls.docDef f params body scope pm cd doc) ⟨vs, []⟩ = pure (ps.zip vs))
    (hR : ∀ ds d, R ds d → ds.length = ps.length)
    (hbody : ∀ (A : Around) (env : Env) (s₀ : Shared) (c : Addr), OkA k A → Ok A (nmAt ns) ns.length env → env.scope.names = scope.names → env.code = .ref c → env.qual = f ++ ".<locals>." → C c →
      ∀ ds d K X σ s, R ds d → (∀ i, σ i = slots0 ds i) → SInv mg mb hG env (nmAt ns) ns.length (cxT s₀) K X (fun _ => 0) σ s → wpAny (model prog w) A (execs body env) (fun f s' => ∃ σ', Post mg mb hG (nmAt ns) ns.length (cxT s₀) env K X s σ' (.ret d) f s') (fun _ _ => False) s) :
    TSpec prog w mg mb hG (k + 1) f R := by
  intro ds d hr
  obtain ⟨a, o, pm, cd, doc, ha, hat1, hag, hdata, hcd, hcode, hC⟩ := hat
  refine ⟨a, ha, fun A s X vs qs hA B ht hL hX htab htr hT q => ?_⟩
  have ho := B.over a o hat1 hag
  refine ⟨o, _, ho, hdata, ?_⟩
  have hlen := hR _ _ hr
  have hvl : vs.length = ps.length := by rw [q.length, hlen]
  have hcr := code_over B hcd hcode
  have htl : tabA < s.heap.objs.size := Heap.lt_size htab
  refine call_enter (mg := mg) (mb := mb) (hG := hG) (k := k) (σ := slots0 ds) (cx := cxT s) (X := X) ho hdata hcr sh (hbind _ _ _ _ hvl) hvl hA B ht hL (fun b hb => ?_) ⟨rfl, fun h => h⟩ (fun env X' s₁ lk m g => slots0_ok sh hlen hvl q lk m) slots0_mut (slots0_dom sh hlen) ?_
  · have hb : b = tabA := hb
    subst hb
    exact ⟨hX, Nat.ne_of_lt htl, fun h => gl_tab h rfl, qs, htab, htr, hT⟩
  · intro env X' s₁ hO hA' hn J kp fr sub same hcd' hq'
    refine wpAny_mono (hbody _ env s cd hA' hO hn hcd' hq' hC ds d _ X' _ s₁ hr (fun _ => rfl) J) (fun fl s' pst => ?_) fun _ _ e => e
    obtain ⟨σ', X'', α', J', R', u, rfl, pu⟩ := pst
    have yT : (cxT s).Y tabA := rfl
    obtain ⟨x1, x2, qs', t1, t2, t3⟩ := J'.ysub tabA yT
    have anti : ∀ b, ¬ X'' b → ¬ X b := fun b n h => by
      by_cases hb : b = tabA
      · exact n (hb ▸ x1)
      · exact n (J'.sub b ⟨h, hb⟩)
    have mono : Mono s'.heap X'' s'.heap X := fun b ob e n => ⟨e, anti b n⟩
    refine ⟨u, rfl, pu.mono mono, fun b ob hb e => ?_, ⟨qs', t1, t2, t3.mono mono⟩, Nat.le_trans kp.2 R'.2.2, J'.rest.1, J'.rest.2⟩
    by_cases h : X b
    · exact R'.2.1 b ob ⟨h, hb⟩ (kp.grow _ _ e)
    · exact (R'.1 b ob (kp.grow _ _ e) (fr b ob e h)).1

end
end Mine
end

/-! S43 -/
section
open PySem PySem.W PyProof.Rows
set_option maxRecDepth 100000

namespace Mine
section
variable {prog : Program} {w : World} {A : Around} {mg mb : Str → Option Value} {hG : Heap} {env : Env} {s₀ : Shared} {nm : Nat → Str} {N : Nat} {Φ : Str → List D → Option D}

theorem SInv.tk {K X α σ s s'} (J : SInv mg mb hG env nm N (cxT s₀) K X α σ s) (t : TKeep s X s') : SInv mg mb hG env nm N (cxT s₀) K X α σ s' ∧ Rel K X s X s' := by
  obtain ⟨hs, ⟨ps, t1, t2, t3⟩, htk, hos, hb⟩ := t
  obtain ⟨J1, R1⟩ := J.tab (h' := s'.heap) (t := s'.toks) (fun a => cxT_Y) hs htk t1 t2 t3
  refine ⟨J1.grow (s' := s') (Grow.refl _) (Nat.le_refl _) (cxT_R _ _ J1.rest hos hb), R1⟩

/-- a call that may make functions -/
theorem eval_callT {k : Nat} {f : Str} {cp cpos : Pos} {e : Expr} {rest : List Expr} {R : List D → D → Prop} {K X α σ s} {ds : List D} {d : D} {Q : Value → Shared → Prop} (O : Ok A nm N env) (hA : OkA k A) (T : TSpec prog w mg mb hG k f R) (hr : R ds d)
    (df : (f == ("__debug__" : Str)) = false) (kf : env.kindOf f = some .globalImplicit) (pe : ∀ x ∈ e :: rest, plainE x = true) (J : SInv mg mb hG env nm N (cxT s₀) K X α σ s)
    (hargs : ∀ Q : List Value → Shared → Prop, (∀ vs s1, Kp s s1 → DenL s1.heap X ds vs → Q vs s1) → wpAny (model prog w) A (spliced (backTo cpos (starEach (e :: rest) env))) Q (fun _ _ => False) s)
    (hq : ∀ v s', SInv mg mb hG env nm N (cxT s₀) K X α σ s' → Rel K X s X s' → Den s'.heap X d v → Q v s') :
    wpAny (model prog w) A (eval (.Call (.Name f cp) (e :: rest) [] cpos) env) Q (fun _ _ => False) s := by
  obtain ⟨a, ha, T⟩ := T ds d hr
  refine Call_ (eval_glob O.hE df kf J.e.bas ha ?_) rfl
  refine callWith_fn pe (hargs _ fun vs s1 k1 q => ?_)
  have J1 := J.kp k1
  have yT : (cxT s₀).Y tabA := rfl
  obtain ⟨x1, x2, ps, t1, t2, t3⟩ := J1.ysub tabA yT
  obtain ⟨o, fd, e1, e2, hc⟩ := T A s1 X vs ps hA J1.e.bas J1.e.tok J1.e.live x1 t1 t2 t3 q
  refine ⟨⟨o, fd, e1, e2⟩, wpAny_call (codeAny_mono hc fun r s' hr => ?_)⟩
  obtain ⟨v, rfl, pv, tk⟩ := hr
  obtain ⟨J2, R2⟩ := J1.tk tk
  exact hq v s' J2 ((Rel.kp k1).trans R2) pv

/-- `x = f(a, b, c)` for such a call -/
noncomputable def callP (R : List D → Option D) (es : Slots → Option (List D)) (x : Nat) (σ : Slots) : Option Slots := onO (fun ds => onO (fun d => some (put σ x (.val d))) (R ds)) (es σ)
noncomputable def es3 (Φ : Str → List D → Option D) (c1 c2 c3 : E) (σ : Slots) : Option (List D) := onO (fun a => onO (fun b => onO (fun c => some [a, b, c]) (evm Φ .strict c3 σ)) (evm Φ .strict c2 σ)) (evm Φ .strict c1 σ)

theorem so_callT3 {k : Nat} {f n : Str} {p cp cpos pos : Pos} {e1 e2 e3 : Expr} {c1 c2 c3 : E} {x : Nat} {φ : List D → Option D} (O : Ok A nm N env) (hA : OkA k A) (T : TSpec prog w mg mb hG k f fun ds d => φ ds = some d)
    (df : (f == ("__debug__" : Str)) = false) (kf : env.kindOf f = some .globalImplicit) (p1 : plainE e1 = true) (p2 : plainE e2 = true) (p3 : plainE e3 = true)
    (h1 : Snd prog w mg mb hG A Φ nm env e1 c1) (h2 : Snd prog w mg mb hG A Φ nm env e2 c2) (h3 : Snd prog w mg mb hG A Φ nm env e3 c3)
    (hx : nm x = n) (hxN : x < N) (hk : env.kindOf n = some .local ∨ env.kindOf n = some .cell) :
    SO prog w mg mb hG A Φ nm N (cxT s₀) env (.Assign [.Name n p] (.Call (.Name f cp) [e1, e2, e3] [] cpos) pos)
      (.spec (callP φ (es3 Φ c1 c2 c3) x)) := by
  intro n' K X α σ s σ' fl J h
  refine spec_k h fun σ₁ hf h => onO_k hf fun ds he hf => onO_k hf fun d hr hf => onO_k he fun d1 g1 he => onO_k he fun d2 g2 he => onO_k he fun d3 g3 he => ?_
  replace h : (some (put σ x (.val d), .nxt) : Rs) = some (σ', fl) := (congrArg (fun q : Slots => (some (q, .nxt) : Rs)) (Option.some.inj hf)).trans h
  replace hr : φ [d1, d2, d3] = some d := (congrArg φ (Option.some.inj he)).trans hr
  clear hf he
  refine pr h ?_
  refine wpAny_Assign_Name (eval_callT (R := fun ds d => φ ds = some d) O hA T hr df kf (pe3 p1 p2 p3) J (fun Q hQ => items3 p1 p2 p3 h1 h2 h3 J.e g1 g2 g3 fun v u t s1 k1 _ q1 q2 q3 => hQ _ _ k1 (.cons q1 (.cons q2 (.cons q3 .nil)))) fun v s' J' r' pv => ?_) rfl
  exact store_val hx hxN (fun z hz h => O.inj z x hz hxN (h.trans hx.symm)) O.hE J' hk pv fun s₆ J6 r6 => ⟨X, α, J6, r'.trans r6, rfl⟩
end

section
variable {w : World} {mg mb : Str → Option Value} {hG : Heap}
theorem t_translate0 (g : Gnd mg mb hG) {P : Addr} (hP : PatG mg hG "_twin_re_1" P) (hat : TDef (LamG mg hG) mg hG "_translate" d_translate.params d_translate.body d_translate.scope) {k : Nat} :
    TSpec prg w mg mb hG (k + 2) "_translate" fun ds d => runFn no fuel 3 code_translate ds = some d := by
  refine tspec_of (ns := ns_translate) (ps := ["pat", "STAR", "QUESTION_MARK"]) hat ⟨by decide +kernel, rfl, by decide +kernel, rfl, rfl, rfl⟩ (fun _ _ _ _ hv => let ⟨_, _, _, e⟩ := len_3 hv; e ▸ rfl) (fun ds d h => runFn_k h fun hl _ _ => hl) fun A env s₀ c hA O hn hc hq L ds d K X σ s hr hσ J => ?_
  have hσ : σ = slots0 ds := funext hσ
  subst hσ
  exact runFn_k hr fun _ σ' hrr => wpM (ss_translate g (k := k) hA O hn (fun a => Iff.rfl) rfl (fun s s' a b c => cxT_R s s' a b c) hc hq L hP fuel K X _ _ s σ' _ J hrr) fun f s' h => ⟨σ', h⟩
end
end Mine
end

/-! S44 -/
section
open PySem PySem.W PyProof.Rows
set_option maxRecDepth 100000

namespace Mine
section
variable {w : World} {mg mb : Str → Option Value} {hG : Heap}

theorem h_translate0 : (defOf prg "translate").isSome = true := by decide +kernel
noncomputable abbrev d_translate0 : DefRec := dr "translate" h_translate0
noncomputable def trR (ds : List D) (d : D) : Prop := ∃ l, ds = [.str l] ∧ ∀ a, ∃ ps, runFn no fuel 3 code_translate [.str l, .obj a, .str [46]] = some ps ∧ Φs 1 "_join_translated_parts" [ps, .obj a] = some d

theorem t_translate (g : Gnd mg mb hG) {P : Addr} (hP : PatG mg hG "_twin_re_1" P) (hat : TDef (LamG mg hG) mg hG "_translate" d_translate.params d_translate.body d_translate.scope)
    (hat0 : TDef (fun _ => True) mg hG "translate" d_translate0.params d_translate0.body d_translate0.scope) : TSpec prg w mg mb hG 3 "translate" trR := by
  refine tspec_of (ns := ["pat", "STAR", "parts"]) (ps := ["pat"]) hat0 ⟨by decide +kernel, rfl, by decide +kernel, rfl, rfl, rfl⟩ (fun _ _ _ _ hv => let ⟨_, e⟩ := len_1 hv; e ▸ rfl) (fun ds d h => by obtain ⟨l, rfl, _⟩ := h; rfl) fun A env s₀ c hA O hn hc hq _ ds d K X σ s hr hσ J => ?_
  have F := levels (w := w) g 1
  have T := t_translate0 (w := w) g hP hat (k := 0)
  let C : CC := ⟨prg, w, mg, mb, hG, A, Φs 1, 2, hA, okA_line hA, g.built, F⟩
  have Fr : C.Fr ["pat", "STAR", "parts"] env d_translate0.scope.names := ⟨O, hn⟩
  have kd : ∀ {n : Str} {q : NameKind}, d_translate0.scope.names.lookup n = some q → env.kindOf n = some q := fun h => by unfold Env.kindOf; rw [hn]; exact h
  have ce : ∀ {e : Expr} {c : E}, (C.cE ["pat", "STAR", "parts"] 60 d_translate0.scope.names e).map Subtype.val = some c → Snd prg w mg mb hG A (Φs 1) (nmAt ["pat", "STAR", "parts"]) env e c := fun h => Fr.e (val_of h)
  have hσ : σ = slots0 ds := funext hσ
  subst hσ
  obtain ⟨l, rfl, hr⟩ := hr
  refine wpAny_execs_cons (wpAny_Assign_Name (Call_ (eval_built O.hE (by decide +kernel) (kd rfl) J.e.bas g.built.object ?_) rfl) rfl)
  refine PySem.callWith_type rfl (wpAny_pure ?_)
  refine call_object ?_
  have kI : Kp s { s with heap := s.heap.push { cls := .type "object", data := .plain } } := kp_push s _
  have J1 := J.kp kI
  generalize hs1 : ({ s with heap := s.heap.push { cls := .type "object", data := .plain } } : Shared) = s1 at *
  have pa : Den s1.heap X (.obj s.heap.objs.size) (.ref s.heap.objs.size) := by
    unfold Den
    exact ⟨rfl, J.e.live.new, _, by rw [← hs1]; exact Heap.get?_push_size _ rfl⟩
  refine store_val (x := 1) rfl (by decide) (fun z hz h => O.inj z 1 hz (by decide) h) O.hE J1 (.inl (kd rfl)) pa fun s2 J2 r2 => ?_
  obtain ⟨ps, hp1, hp2⟩ := hr s.heap.objs.size
  have ss : SS prg w mg mb hG A (Φs 1) (nmAt ["pat", "STAR", "parts"]) 3 (cxT s₀) env d_translate0.body.tail [_, .ret (.call2 "_join_translated_parts" (.var 2) (.var 1))] := ss_cons (so_callT3 (w := w) (Φ := Φs 1) (c1 := .var 0) (c2 := .var 1) (c3 := .str [46]) (x := 2) O hA T (by decide +kernel) (kd rfl) rfl rfl rfl (ce (by kernel_rfl)) (ce (by kernel_rfl)) (ce (by kernel_rfl)) rfl (by decide) (.inl (kd rfl))) (ss_cons (so_ret (w := w) (ce (by kernel_rfl))) ss_nil)
  have st2 : Rel K X s X s2 := (Rel.kp kI).trans r2
  refine wpAny_mono (ss 3 K X (fun _ => 0) _ s2 (put (put (slots0 [.str l]) 1 (.val (.obj s.heap.objs.size))) 2 (.val ps)) (.ret d) J2 ?_) (fun f s' h => ⟨put (put (slots0 [.str l]) 1 (.val (.obj s.heap.objs.size))) 2 (.val ps), ?_⟩) fun _ _ e => e
  · generalize hτ : put (slots0 [.str l]) 1 (.val (.obj s.heap.objs.size)) = τ
    have z1 : callP (fun ds => runFn no fuel 3 code_translate ds) (es3 (Φs 1) (.var 0) (.var 1) (.str [46])) 2 τ = some (put τ 2 (.val ps)) := hτ ▸ congrArg (onO fun d => some (put (put (slots0 [.str l]) 1 (.val (.obj s.heap.objs.size))) 2 (.val d))) hp1
    have z2 : step (Φs 1) (run (Φs 1) 1) 1 (.ret (.call2 "_join_translated_parts" (.var 2) (.var 1))) (put τ 2 (.val ps)) = some (put τ 2 (.val ps), .ret d) := hτ ▸ congrArg (kret _) hp2
    exact (congrArg (fun r => seqR (run (Φs 1) 2 [.ret (.call2 "_join_translated_parts" (.var 2) (.var 1))]) (kspec r)) z1).trans (congrArg (seqR (run (Φs 1) 1 [])) z2)
  · obtain ⟨X', α', q1, q2, q3⟩ := h
    exact ⟨X', α', q1, st2.trans q2, q3⟩
end
end Mine
end

/-! S45 -/
section
open PySem PySem.W PyProof.Rows
set_option maxRecDepth 4000

namespace Mine
section
variable {prog : Program} {w : World} {A : Around} {mg mb : Str → Option Value} {hG : Heap} {env : Env} {cx : Cx} {nm : Nat → Str} {N : Nat} {Φ : Str → List D → Option D}

/-- what the loop rests on -/
inductive UseReady (prog : Program) (w : World) (A : Around) (env : Env) (scope : Scope) (cl : List (Str × Addr)) (elt target : Expr) (ifs : List Expr) (X : Addr → Prop) (rs : List D) (s : Shared) (it : Value) (s₂ : Shared) : Prop
  | mk (h0 : Heap) (I : Addr) (ds : List D) (fp : List Addr) (P : Nat → Value → Prop) (St : Nat → Heap → Prop) (g : D → Option (Option D)) (hit : it = .ref I) (S : Src prog w A h0 X I ds fp P St) (hsz : ds.length ≤ sizeLine) (hc : coll g ds = some rs) (hG : Grow h0 s₂.heap) (hst : St 0 s₂.heap) (hI : I < s₂.heap.objs.size)
    (turn : ∀ C, s₂.heap.objs.size ≤ C → CompTurn prog w A h0 s₂.toks X I ds St g elt target ifs (compEnvC scope cl C env)) (kp : Kp s s₂) (gr : Grow s.heap h0)

/-- `y = [..]`, y local: the list made, then stored from within -/
theorem comp_use {K X α σ} {s : Shared} {elt target iter : Expr} {ifs : List Expr} {scope : Scope} {cl : List (Str × Addr)} {pos spos py : Pos} {y : Str} {x : Nat} {rs : List D} (O : Ok A nm N env)
    (hsw : swapsWith (.ListComp elt [⟨target, iter, ifs, 0⟩] scope pos) (some (.Name y py)) spos.line env = pure true)
    (hclos : closureFor scope env = pure cl) (hcell : ∀ y ∈ scope.names, y.2 ≠ .cell) (hkind : scope.kind = .function)
    (hnames : ∀ y ∈ scope.names, y.2 = .local → scope.names.lookup y.1 = some .local)
    (hs : ∀ x, foldedSetIterable iter env x = pure x) (hx : nm x = y) (hxN : x < N) (hk : env.kindOf y = some .local) (J : SInv mg mb hG env nm N cx K X α σ s)
    (h : wpAny (model prog w) A (eval iter env) (fun xv s₁ => wpAny (model prog w) A (pyIter xv) (UseReady prog w A env scope cl elt target ifs X rs s) (fun _ _ => False) s₁) (fun _ _ => False) s) :
    wpAny (model prog w) A (exec (.Assign [.Name y py] (.ListComp elt [⟨target, iter, ifs, 0⟩] scope pos) spos) env) (Post mg mb hG nm N cx env K X s (put σ x (.val (.list rs))) .nxt) (fun _ _ => False) s := by
  rw [exec_Assign_Name_used _ _ _ _ hsw]
  refine wpAny_bind (wpAny_standAt (wpAny_bind ?_))
  show wpAny _ A (do let _ ← comprehension (.ListComp elt [⟨target, iter, ifs, 0⟩] scope pos) scope env _ (newList []) false (eval iter env) (some (assign (.Name y py) env))) _ _ s
  refine wpAny_bind (wpAny_mono (wpAny_comprehension_free (use := some (assign (.Name y py) env)) (Q := fun _ s' => Post mg mb hG nm N cx env K X s (put σ x (.val (.list rs))) .nxt .next s') rfl hs hclos hkind hnames
    (wpAny_mono h (fun xv s₁ h₁ => wpAny_mono h₁ (fun it s₂ h₂ => ?_) fun _ _ e => e) fun _ _ e => e)) (fun _ s' hq => wpAny_pure (wpAny_pure hq)) fun _ _ e => e)
  obtain ⟨h0, I, ds, fp, P, St, g, rfl, S, hsz, hcoll, hG', hst, hI, turn, kp, gr⟩ := h₂
  refine comp_block (RR := fun acc C => compPost (model prog w) A (fun _ _ => False) (some (assign (.Name y py) env)) (fun _ s' => Post mg mb hG nm N cx env K X s (put σ x (.val (.list rs))) .nxt .next s') acc C) S hsz hcoll hG' hst hI hcell hkind turn ?_
  intro D' C h' tk m' ys hD hC hDC g' ht hn hl q
  show wpAny _ A (assign (.Name y py) env (.ref D')) _ _ _
  have k1 : Kp s { s₂ with heap := h', toks := tk } := by
    obtain ⟨⟨h₂, t₂, rfl, g₂⟩, ht₂⟩ := kp
    exact ⟨⟨h', tk, rfl, gr.trans g'⟩, Nat.le_trans ht₂ ht⟩
  have none_at : ∀ a, s₂.heap.objs.size ≤ a → s.heap.get? a = none := fun a ha => none_of kp.grow ha
  have nX : ∀ a, s₂.heap.objs.size ≤ a → ¬ X a := fun a ha h => let ⟨_, e⟩ := J.e.live a h; nope ((none_at a ha).symm.trans e)
  have hgl : ¬ Gl hG C := not_glob J (none_at C hC)
  have hKI : ¬ K C := fun hk => nX C hC (J.sub C hk)
  have nXD : ¬ (X D' ∨ D' = C) := fun h => h.elim (nX D' hD) hDC
  obtain ⟨J1, R1⟩ := J.guard k1 (none_at C hC) (let ⟨o, _, _, e, _⟩ := hn; ⟨o, e⟩)
  refine wpAny_assign_Name (store_val hx hxN (fun z hz h => O.inj z x hz hxN (h.trans hx.symm)) O.hE J1 (.inl hk) (d := .list rs) ?_ fun s₃ J3 r3 => ?_)
  · unfold Den
    exact ⟨D', ys, rfl, nXD, hl, q.scal (coll_scal hcoll)⟩
  · refine ⟨m', hn.at' fun o e => r3.2.1 _ o (.inr rfl) e, fun h₃ hs₃ => ?_⟩
    have keep : ∀ b o, b ≠ C → s₃.heap.get? b = some o → h₃.get? b = some o := fun b o hb e => hs₃.extBut b o hb e
    have J4 : SInv mg mb hG env nm N cx K (Del1 (Add1 X C) C) α (put σ x (.val (.list rs))) { s₃ with heap := h₃, toks := s₃.toks } :=
      J3.tick (.inr rfl) hgl keep (Nat.le_refl _) (fun b h => h.1) (fun b h h' => ⟨h, h'⟩) (fun h => absurd rfl h.2) (fun b h => ⟨.inl h, ⟨.inl (J.sub b h), fun h' => hKI (h' ▸ h)⟩⟩) (fun b h h' => h.elim id fun h => absurd h h')
    exact ⟨_, α, J4, (R1.deep r3).but (none_at C hC) (fun _ h => h.1) keep (Nat.le_refl _), rfl⟩
end
end Mine
end

/-! S46 -/
section
open PySem PySem.W PyProof.Rows
set_option maxRecDepth 4000

namespace Mine
section
variable {prog : Program} {w : World} {A : Around} {mg mb : Str → Option Value} {hG : Heap} {env : Env} {cx : Cx} {nm : Nat → Str} {N : Nat} {Φ : Str → List D → Option D} {scope : Scope} {vis : List Nat}

theorem so_comp {elt it : Expr} {ce ci : Mine.E} {n y : Str} {i x : Nat} {p py pos spos : Pos} (O : Ok A nm N env) (io : InnerOk env scope vis nm) (hn : scope.names.lookup n = some .local) (hnm : nm i = n) (hs : ∀ x, foldedSetIterable it env x = pure x)
    (hsw : swapsWith (.ListComp elt [⟨.Name n p, it, [], 0⟩] scope pos) (some (.Name y py)) spos.line env = pure true) (hx : nm x = y) (hxN : x < N) (hk : env.kindOf y = some .local)
    (he : ∀ C, Snd prog w mg mb hG A Φ nm (compEnvC scope (clOf env scope.names []) C env) elt ce) (hi : Snd prog w mg mb hG A Φ nm env it ci) :
    SO prog w mg mb hG A Φ nm N cx env (.Assign [.Name y py] (.ListComp elt [⟨.Name n p, it, [], 0⟩] scope pos) spos) (.set x (.comp i vis ce ci)) := by
  intro n' K X α σ s σ' fl J h
  refine kD_k h fun d hd h => pr h ?_
  refine comp_k hd fun l h1 hlen r h2 hr => ?_
  subst hr
  refine comp_use O hsw (io.closure O.hc) io.cell io.kind io.names hs hx hxN hk J (evB hi J.e h1 fun v s1 k1 I1 p1 => ?_)
  obtain ⟨a, vs, rfl, hl, q⟩ := denB_list p1
  exact src_list O.hh hl q fun It fp P St s2 k2 S hst hIt hIt' hlist _ => ⟨s1.heap, It, l, fp, P, St, _, rfl, S, small_list hlen, h2, k2.grow, hst, hIt, fun C hC => turn_name io O.hE hn hnm (he C) I1 (Grow.refl _) k2.2 (none_of k2.grow hC), k1.trans k2, k1.grow⟩

theorem so_compr {elt it : Expr} {ce ci : Mine.E} {n y : Str} {i x : Nat} {p py pos spos rp rpos : Pos} (O : Ok A nm N env) (hb : Built mg mb) (pi : plainE it = true) (hkr : env.kindOf "range" = some .globalImplicit) (io : InnerOk env scope vis nm) (hn : scope.names.lookup n = some .local) (hnm : nm i = n)
    (hsw : swapsWith (.ListComp elt [⟨.Name n p, .Call (.Name "range" rp) [it] [] rpos, [], 0⟩] scope pos) (some (.Name y py)) spos.line env = pure true) (hx : nm x = y) (hxN : x < N) (hk : env.kindOf y = some .local)
    (he : ∀ C, Snd prog w mg mb hG A Φ nm (compEnvC scope (clOf env scope.names []) C env) elt ce) (hi : Snd prog w mg mb hG A Φ nm env it ci) :
    SO prog w mg mb hG A Φ nm N cx env (.Assign [.Name y py] (.ListComp elt [⟨.Name n p, .Call (.Name "range" rp) [it] [] rpos, [], 0⟩] scope pos) spos) (.set x (.compr i vis ce ci)) := by
  intro n' K X α σ s σ' fl J h
  refine kD_k h fun d hd h => pr h ?_
  refine compr_k hd fun l h1 hlen r h2 hr => ?_
  subst hr
  refine comp_use O hsw (io.closure O.hc) io.cell io.kind io.names (fun _ => rfl) hx hxN hk J (Call_ (eval_built O.hE (by decide +kernel) hkr J.e.bas hb.range (Pv.callWith_type1 (wpAny_items_cons (ev1 hi J.e h1 fun v s1 k1 I1 p1 => wpAny_items_nil ?_) (starEach_plain pi)) (starEach_plain pi) rfl)) rfl)
  obtain ⟨t, rfl⟩ := den_int_inv p1
  exact src_range (X := X) O.hh hlen.1 hlen.2 fun h0 It fp P St s2 k2 g1 g2 S hst hIt hIt' _ _ => ⟨h0, It, _, fp, P, St, _, rfl, S, rangeL_small hlen.2, h2, g2, hst, hIt, fun C hC => turn_name io O.hE hn hnm (he C) I1 g1 k2.2 (none_of g2 hC), k1.trans k2, k1.grow.trans g1⟩
end
end Mine
end

/-! S47 -/
section
open PySem PySem.W PyProof.Rows
set_option maxRecDepth 4000

namespace Mine
section
variable {prog : Program} {w : World} {A : Around} {mg mb : Str → Option Value} {hG : Heap} {env : Env} {cx : Cx} {nm : Nat → Str} {N : Nat} {Φ : Str → List D → Option D} {scope : Scope} {vis : List Nat}

/-- `x = [elt for n in v[:m]] + rhs`, v holding any list -/
theorem st_numbers {K X α σ s} {S : Addr} {vs : Array Value} {ds rs r2 : List D} {elt six rhs : Expr} {ce c2 : Mine.E} {n y v : Str} {i x z m : Nat} {p py pv p2 psub pos bpos spos : Pos} (O : Ok A nm N env) (J : ∀ t, 1 ≤ t → SInv mg mb hG env nm N cx K X α σ { s with toks := t })
    (hL : s.heap.IsList S vs) (q : DenL s.heap X ds vs.toList) (hlen : ds.length ≤ lim) (h0 : σ z = .ptr S) (hz : nm z = v) (dv : (v == ("__debug__" : Str)) = false)
    (hsix : ∀ (Q : Value → Shared → Prop) (E : Value → Shared → Prop) (s : Shared), Q (.int (m : Int) s.toks) { s with toks := s.toks + 1 } → wpAny (model prog w) A (eval six env) Q E s) (io : InnerOk env scope vis nm) (hn : scope.names.lookup n = some .local) (hnm : nm i = n) (hx : nm x = y) (hxN : x < N) (hk : env.kindOf y = some .local ∨ env.kindOf y = some .cell)
    (hs : ∀ x, foldedSetIterable (.Subscript (.Name v pv) (.Slice none (some six) none p2) psub) env x = pure x)
    (he : ∀ C, Snd prog w mg mb hG A Φ nm (compEnvC scope (clOf env scope.names []) C env) elt ce) (hrs : coll (fun d => someO (evm Φ .strict ce (upd (inner σ vis) i (.val d)))) (ds.take m) = some rs)
    (h2 : Snd prog w mg mb hG A Φ nm env rhs c2) (e2 : evm Φ .strict c2 σ = some (.list r2)) (hb : binD .Add (.list rs) (.list r2) = some (.list (rs ++ r2))) :
    wpAny (model prog w) A (exec (.Assign [.Name y py] (.BinOp (.ListComp elt [⟨.Name n p, .Subscript (.Name v pv) (.Slice none (some six) none p2) psub, [], 0⟩] scope pos) .Add rhs bpos) spos) env) (Post mg mb hG nm N cx env K X s (put σ x (.val (.list (rs ++ r2)))) .nxt) (fun _ _ => False) s := by
  have lk : Look env s.heap v (.ref S) := by
    have := (J 1 (Nat.le_refl _)).e.slots z
    rw [h0] at this
    rw [← hz]; exact this
  have lp := q.length
  rw [Array.length_toList] at lp
  refine wpAny_Assign_Name (wpAny_BinOp (comp_eval (io.closure O.hc) io.cell io.kind io.names hs ?_)) rfl
  refine wpAny_Subscript_list_slice (eval_look O.hE dv lk (wpAny_evalPart_none (wpAny_evalPart_some (hsix _ _ _ ?_))))
  have J0 := J (s.toks + 1) (Nat.le_add_left _ _)
  have k3 : Kp s { s with toks := s.toks + 1 } := kp_toks s 1
  have k30 : Kp { s with toks := s.toks + 1 } { s with toks := s.toks + 1 } := kp_refl _
  have p3 : Den s.heap X (.int m) (.int (m : Int) s.toks) := den_int
  generalize hvu : Value.int (m : Int) s.toks = vu at *
  generalize hs3 : ({ s with toks := s.toks + 1 } : Shared) = s3 at *
  have hx3 : s3.heap.IsList S vs := let ⟨o, e, r⟩ := hL; ⟨o, k3.grow _ _ e, r⟩
  refine ⟨S, vs, none, some (m : Int), rfl, hx3, by rw [lp, ← lim_eq]; exact hlen, .none, (partOf p3 (by rfl)).1, ?_⟩
  have hpick : slicePick vs none (some (m : Int)) none = (vs.toList.take m).toArray := by
    rw [slicePick_plain]
    congr 1
    show (vs.toList.drop 0).take (clipAt vs.size (m : Int) - 0) = _
    have hc : clipAt vs.size (m : Int) = min m vs.size := by
      have := clipAt_cast vs.size (m : Int)
      have h : ¬ ((m : Int) < 0) := by omega
      rw [if_neg h] at this
      omega
    rw [hc, List.drop_zero, Nat.sub_zero]
    by_cases hm : m ≤ vs.size
    · rw [Nat.min_eq_left hm]
    · rw [Nat.min_eq_right (by omega), List.take_of_length_le (by simp), List.take_of_length_le (by simp; omega)]
  have J3 := J0.kp k30
  generalize hob : ({ cls := .type "slice", data := .fields #[.none, vu, .none] } : Obj) = ob
  have kS : Kp s3 { s3 with heap := (s3.heap.push ob).push { cls := .type "list", data := .seq (slicePick vs none (some (m : Int)) none) } } := (kp_push s3 ob).trans (kp_push { s3 with heap := s3.heap.push ob } _)
  have hl4 : ((s3.heap.push ob).push { cls := .type "list", data := .seq (slicePick vs none (some (m : Int)) none) }).IsList (s3.heap.objs.size + 1) (vs.toList.take m).toArray := by
    rw [hpick, ← Heap.size_push s3.heap ob]
    exact ⟨_, Heap.get?_push_size _ rfl, rfl, 0, rfl⟩
  generalize hs4 : ({ s3 with heap := (s3.heap.push ob).push { cls := .type "list", data := .seq (slicePick vs none (some (m : Int)) none) } } : Shared) = s4 at *
  have hl4' : s4.heap.IsList (s3.heap.objs.size + 1) (vs.toList.take m).toArray := by rw [← hs4]; exact hl4
  have k4 := k3.trans kS
  have J4 := J3.kp kS
  have q4 : DenL s4.heap X (ds.take m) (vs.toList.take m).toArray.toList := by simpa using (q.mono k4.grow.mono).take m
  refine src_list (X := X) O.hh hl4' q4 fun It fp P St s5 k5 Sr hst hIt hIt' hlist _ => ?_
  have hlt : (ds.take m).length ≤ sizeLine := by rw [← lim_eq, List.length_take]; omega
  refine ⟨s4.heap, X, It, ds.take m, rs, fp, P, St, _, rfl, Sr, hlt, hrs, k5.grow, hst, hIt, fun C hC => ?_, fun D' h' tk ys hD g ht hl' q' => ?_⟩
  · exact turn_name io O.hE hn hnm (he C) J4.e (Grow.refl _) k5.2 (by
      cases e : s4.heap.get? C with
      | none => rfl
      | some o => exact absurd (Heap.lt_size (k5.grow _ _ e)) (Nat.not_lt.mpr hC))
  · have hX : ¬ X D' := fun hx => by
      obtain ⟨o, e⟩ := J4.e.live D' hx
      exact absurd (Heap.lt_size (k5.grow _ _ e)) (Nat.not_lt.mpr hD)
    obtain ⟨⟨h₂, t₂, rfl, g₂⟩, ht₂⟩ := k5
    have k46 : Kp s4 { s4 with heap := h', toks := tk } := ⟨⟨h', tk, rfl, g⟩, Nat.le_trans ht₂ ht⟩
    have k6 : Kp s { s4 with heap := h', toks := tk } := k4.trans k46
    have J6 := J4.kp k46
    have d1 : Den h' X (.list rs) (.ref D') := by
      unfold Den
      exact ⟨D', ys, rfl, hX, hl', q'⟩
    refine ev1 h2 J6.e e2 fun v s7 k7 I7 p7 => ?_
    have J7 := J6.kp k7
    refine bin_sound J7.e.live.new (d1.mono k7.grow.mono).borrow p7.borrow hb _ _ fun r s8 k8 p8 => ?_
    have k9 := (k6.trans k7).trans k8
    refine store_val hx hxN (fun z' hz' h => O.inj z' x hz' hxN (h.trans hx.symm)) O.hE (J7.kp k8) hk p8 fun s' J' r' => ⟨X, α, J', (Rel.kp k9).trans r', rfl⟩
end
end Mine
end

/-! S48 -/
section
open PySem PySem.W PyProof.Rows
set_option maxRecDepth 4000

namespace Mine
section
variable {prog : Program} {w : World} {A : Around} {mg mb : Str → Option Value} {hG : Heap} {env : Env} {s₀ : Shared} {nm : Nat → Str} {N : Nat} {Φ : Str → List D → Option D}

/-- `x = f1(f2(e))`, f2 making functions -/
noncomputable def twoF (Φ : Str → List D → Option D) (f1 : Str) (ce : E) (tr : D → Option D) (x : Nat) (σ : Slots) : Option Slots := onO (fun d => onO (fun t => onO (fun r => some (put σ x (.val r))) (Φ f1 [t])) (tr d)) (evm Φ .strict ce σ)

theorem so_two {k : Nat} {f1 f2 n : Str} {p p1 p2 q1 q2 pos : Pos} {e : Expr} {ce : E} {x : Nat} {tr : D → Option D} {R : List D → D → Prop} (O : Ok A nm N env) (hA : OkA k A) (F : FSpec prog w mg mb hG k f1 (Φ f1)) (T : TSpec prog w mg mb hG k f2 R) (htr : ∀ d t, tr d = some t → R [d] t)
    (d1 : (f1 == ("__debug__" : Str)) = false) (k1 : env.kindOf f1 = some .globalImplicit) (d2 : (f2 == ("__debug__" : Str)) = false) (k2 : env.kindOf f2 = some .globalImplicit) (pe : plainE e = true)
    (he : Snd prog w mg mb hG A Φ nm env e ce) (hx : nm x = n) (hxN : x < N) (hk : env.kindOf n = some .local ∨ env.kindOf n = some .cell) :
    SO prog w mg mb hG A Φ nm N (cxT s₀) env (.Assign [.Name n p] (.Call (.Name f1 p1) [.Call (.Name f2 p2) [e] [] q2] [] q1) pos) (.spec (twoF Φ f1 ce tr x)) := by
  intro n' K X α σ s σ' fl J h
  refine spec_k h fun σ₁ hf h => onO_k hf fun d g1 hf => onO_k hf fun t g2 hf => onO_k hf fun r g3 hf => ?_
  replace h : (some (put σ x (.val r), .nxt) : Rs) = some (σ', fl) := (congrArg (fun q : Slots => (some (q, .nxt) : Rs)) (Option.some.inj hf)).trans h
  clear hf
  refine pr h ?_
  obtain ⟨fa, hfa, _⟩ := F _ _ g3
  refine wpAny_Assign_Name (Call_ (eval_glob O.hE d1 k1 J.e.bas hfa ?_) rfl) rfl
  refine callWith_fn (pe1 rfl) (wpAny_items_cons (eval_callT O hA T (htr _ _ g2) d2 k2 (pe1 pe) J (fun Q hQ => items1 pe he J.e g1 fun v s1 k1 _ q1 => hQ _ _ k1 (.cons q1 .nil)) fun v s1 J1 r1 pv => wpAny_items_nil ?_) (starEach_plain rfl))
  refine call_spec F hA g3 hfa J1.e (.cons pv .nil) fun u s2 k2 p2 => ?_
  exact store_val hx hxN (fun z hz h => O.inj z x hz hxN (h.trans hx.symm)) O.hE (J1.kp k2) hk p2 fun s₆ J6 r6 => ⟨X, α, J6, (r1.trans (Rel.kp k2)).trans r6, rfl⟩
end
end Mine
end

/-! S49 -/
section
open PySem PySem.W PyProof.Rows
set_option maxRecDepth 100000

namespace Mine
noncomputable def ns_law : List Str := ["script", "number", "numbers", "octets", "asked", "name", "pieces", "told", "octet", "item", "place"]
theorem h_law : (defOf prg "law").isSome = true := by decide +kernel
noncomputable abbrev d_law : DefRec := dr "law" h_law
noncomputable def ceN : E := .bin .Mod (.bin .Mult (.var 1) (.int 1901)) (.int 3072)
noncomputable def lawTail (tr : D → Option D) : List S := [
  .set 3 (.comp 1 [] (.bin .FloorDiv (.var 1) (.int 12)) (.var 2)),
  .own0 4,
  .forl 1 (.var 2) [.ext 4 (.call1 "_law_asked" (.var 1))],
  .set 5 (.join [] (.comp 8 [] (.chr (.var 8)) (.var 3))),
  .spec (twoF (Φs 3) "_law_pieces" (.join [] (.comp 9 [] (.call1 "_law_written" (.var 9)) (.var 4))) tr 6),
  .ife (.cmp .Eq (.var 6) .lst0) [.ret (.bool false)] [],
  .set 7 (.compr 10 [5, 6] (.call2 "_law_takes" (.var 6) (.slc (.var 5) (.var 10) .none)) (.bin .Add (.len (.var 5)) (.int 1))),
  .frz 4,
  .ret (.cmp .Eq (.var 7) (.call2 "_law_answers" (.var 4) (.call1 "_law_digits" (.var 3))))]
section
variable {w : World} {mg mb : Str → Option Value} {hG : Heap}

theorem swaps_local {env : Env} {A : Around} {nm : Nat → Str} {N : Nat} {elt : Expr} {gens : List Comprehension} {scope : Scope} {pos py : Pos} {y : Str} {l : Nat} (O : Ok A nm N env) (hk : env.kindOf y = some .local)
    (h : (py.line == (Expr.ListComp elt gens scope pos).pos.line) = true) (h2 : (scope.names.any fun (n, k) => n == y && (k == .local || k == .cell)) = false) :
    swapsWith (.ListComp elt gens scope pos) (some (.Name y py)) l env = pure true := by
  have hb : env.blockKind = .function := by unfold Env.blockKind; rw [O.hE.1]; rfl
  unfold swapsWith
  simp only [hb, hk, h, h2]
  rfl

theorem law_tail (g : Gnd mg mb hG) {P : Addr} (hP : PatG mg hG "_twin_re_1" P) (hat : TDef (LamG mg hG) mg hG "_translate" d_translate.params d_translate.body d_translate.scope)
    (hat0 : TDef (fun _ => True) mg hG "translate" d_translate0.params d_translate0.body d_translate0.scope) {tr : D → Option D} (htr : ∀ d t, tr d = some t → trR [d] t)
    {A : Around} {env : Env} {s₀ : Shared} (hA : OkA 6 A) (O : Ok A (nmAt ns_law) ns_law.length env) (hn : env.scope.names = d_law.scope.names) :
    SS prg w mg mb hG A (Φs 3) (nmAt ns_law) ns_law.length (cxT s₀) env d_law.body.tail (lawTail tr) := by
  have F := levels (w := w) g 3
  have T := t_translate (w := w) g hP hat hat0
  have T6 : TSpec prg w mg mb hG 6 "translate" trR := fun ds d h => by
    obtain ⟨a, ha, q⟩ := T ds d h
    exact ⟨a, ha, fun A s X vs ps hA => q A s X vs ps ⟨hA.1, by have := hA.2.1; omega, by have := hA.2.2; omega⟩⟩
  let C : CC := ⟨prg, w, mg, mb, hG, A, Φs 3, 6, hA, okA_line hA, g.built, F⟩
  have Fr : C.Fr ns_law env d_law.scope.names := ⟨O, hn⟩
  have kd : ∀ {n : Str} {q : NameKind}, d_law.scope.names.lookup n = some q → env.kindOf n = some q := fun h => by unfold Env.kindOf; rw [hn]; exact h
  have ce : ∀ {e : Expr} {c : E}, (C.cE ns_law 60 d_law.scope.names e).map Subtype.val = some c → Snd prg w mg mb hG A (Φs 3) (nmAt ns_law) env e c := fun h => Fr.e (val_of h)
  have cs : ∀ {st : Stmt} {c : S}, (C.cSt ns_law ["asked"] (cx := cxT s₀) Fr (C.cS ns_law ["asked"] [] Fr 60) 60 st).map Subtype.val = some c → SO prg w mg mb hG A (Φs 3) (nmAt ns_law) ns_law.length (cxT s₀) env st c := val_of
  refine ss_cons ?_ (ss_cons (cs (by kernel_rfl)) (ss_cons (cs (by kernel_rfl)) (ss_cons (cs (by kernel_rfl)) (ss_cons ?_ (ss_cons (cs (by kernel_rfl)) (ss_cons ?_ (ss_frz (ss_cons (cs (by kernel_rfl)) ss_nil))))))))
  · refine so_comp (i := 1) (vis := []) O (innerOk_of (ns := ns_law) (x := "number") rfl (by rw [hn]; decide +kernel)).1 rfl rfl (fun _ => rfl) (swaps_local O (kd rfl) rfl (by decide +kernel)) rfl (by decide) (kd rfl) (CC.inner_at (C := C) (ns := ns_law) (x := "number") rfl (by decide +kernel) (val_of (x := C.cE ns_law 60 _ _) (by kernel_rfl)) O.hE O.hc hn).2 (ce (by kernel_rfl))
  · exact so_two O hA (F _) T6 htr (by decide +kernel) (kd rfl) (by decide +kernel) (kd rfl) rfl (ce (by kernel_rfl)) rfl (by decide) (.inr (kd rfl))
  · refine so_compr (i := 10) (vis := [5, 6]) O g.built rfl (kd rfl) (innerOk_of (ns := ns_law) (x := "place") rfl (by rw [hn]; decide +kernel)).1 rfl rfl (swaps_local O (kd rfl) rfl (by decide +kernel)) rfl (by decide) (kd rfl) (CC.inner_at (C := C) (ns := ns_law) (x := "place") rfl (by decide +kernel) (val_of (x := C.cE ns_law 60 _ _) (by kernel_rfl)) O.hE O.hc hn).2 (ce (by kernel_rfl))
end
end Mine
end

/-! S50 -/
section
open PySem PySem.W PyProof.Rows
set_option maxRecDepth 100000

namespace Mine
/-- what is to be shown of data: law answers True -/
structure LawP (tr : D → Option D) (ds : List D) : Prop where
  ok : ∀ d t, tr d = some t → trR [d] t
  run : ∀ S : Addr, ∃ rs σ', (∀ σ : Slots, coll (fun d => someO (evm (Φs 3) .strict ceN (upd (inner σ []) 1 (.val d)))) (ds.take 6) = some rs) ∧ (binD .Add (.list rs) (.list [.int 1116, .int 540]) = some (.list (rs ++ [.int 1116, .int 540]))) ∧
    Mine.run (Φs 3) fuel (lawTail tr) (put (fun i => if i = 0 then .ptr S else .un) 2 (.val (.list (rs ++ [.int 1116, .int 540])))) = some (σ', .ret (.bool true))

section
variable {w : World} {mg mb : Str → Option Value} {hG : Heap}

theorem law_call (g : Gnd mg mb hG) {P : Addr} (hP : PatG mg hG "_twin_re_1" P) (hat : TDef (LamG mg hG) mg hG "_translate" d_translate.params d_translate.body d_translate.scope)
    (hat0 : TDef (fun _ => True) mg hG "translate" d_translate0.params d_translate0.body d_translate0.scope)
    {fa S cd : Addr} {o : Obj} {pm doc : Value} {A : Around} {s : Shared} {vs : Array Value} {ds : List D} {tr : D → Option D}
    (hag : s.heap.get? fa = some o) (hdata : o.data = .func (Calls.docDef "law" d_law.params d_law.body d_law.scope pm (.ref cd) doc)) (hcr : s.heap.CodeRec (.ref cd) "law")
    (hA : OkA 7 A) (B : Bas mg mb hG s.heap) (htab : s.heap.get? tabA = some (tabObj #[])) (hL : s.heap.IsList S vs) (q : DenL s.heap (fun a => a = tabA) ds vs.toList) (hlen : ds.length ≤ lim) (hp : LawP tr ds) :
    codeAny (model prg w) A (.call (.ref fa) ⟨[.ref S], []⟩) (fun r s' => r = .ok (.ret (.bool true)) ∧ TKeep s (fun a => a = tabA) s') s := by
  obtain ⟨rs, σ', hrs, hadd, hrun⟩ := hp.run S
  have htl : tabA < s.heap.objs.size := Heap.lt_size htab
  refine call_enter0 (mg := mg) (mb := mb) (hG := hG) (k := 6) (ns := ns_law) (ps := ["script"]) (σ := fun i => if i = 0 then .ptr S else .un) (cx := cxT s) (X := fun a => a = tabA) hag hdata hcr ⟨by decide +kernel, rfl, by decide +kernel, rfl, rfl, rfl⟩ rfl rfl hA B
    (fun b hb => ⟨_, hb ▸ htab⟩) (fun b hb => ?_) ⟨rfl, fun h => h⟩ (fun env X' s₁ lk m g i => ?_) (fun i h => ?_) (fun y hy => ?_) ?_
  · have hb : b = tabA := hb
    subst hb
    exact ⟨rfl, Nat.ne_of_lt htl, fun h => gl_tab h rfl, #[], htab, trivial, fun pq hp cv hc => by cases hc⟩
  · cases i with
    | zero =>
      show Look env s₁.heap (nmAt ns_law 0) (.ref S)
      exact lk 0 (Nat.zero_lt_one)
    | succ i =>
      simp only [Nat.succ_ne_zero, if_false]
      exact trivial
  · by_cases hi : i = 0
    · rw [if_pos hi] at h; exact h.elim
    · rw [if_neg hi] at h; exact h.elim
  · have hy' : 11 ≤ y := hy
    exact if_neg (by omega)
  · intro env X' s₁ O hA' hn J kp fr sub same hcd' hq'
    have F := levels (w := w) g 3
    have hA6 : OkA 6 (A.deeper env) := hA'
    let C : CC := ⟨prg, w, mg, mb, hG, A.deeper env, Φs 3, 6, hA6, okA_line hA6, g.built, F⟩
    have Fr : C.Fr ns_law env d_law.scope.names := ⟨O, hn⟩
    have kd : ∀ {n : Str} {q : NameKind}, d_law.scope.names.lookup n = some q → env.kindOf n = some q := fun h => by unfold Env.kindOf; rw [hn]; exact h
    have ce : ∀ {e : Expr} {c : E}, (C.cE ns_law 60 d_law.scope.names e).map Subtype.val = some c → Snd prg w mg mb hG (A.deeper env) (Φs 3) (nmAt ns_law) env e c := fun h => Fr.e (val_of h)
    have mono : Mono s.heap (fun a => a = tabA) s₁.heap X' := fun b o e n => ⟨kp.grow _ _ e, fr b o e n⟩
    have hL1 : s₁.heap.IsList S vs := let ⟨o, e, r⟩ := hL; ⟨o, kp.grow _ _ e, r⟩
    refine wpAny_execs_cons (wpAny_mono (st_numbers (i := 1) (x := 2) (z := 0) (m := 6) (vis := []) O J hL1 (q.mono mono) hlen rfl rfl (by decide +kernel) (fun Q E s h => wpAny_Constant_int h) (innerOk_of (ns := ns_law) (x := "number") rfl (by rw [hn]; decide +kernel)).1 rfl rfl rfl (by decide) (.inl (kd rfl)) (fun _ => rfl) (CC.inner_at (C := C) (ns := ns_law) (x := "number") rfl (by decide +kernel) (val_of (x := C.cE ns_law 60 _ _) (by kernel_rfl)) O.hE O.hc hn).2 (hrs _) (ce (c := .lst2 (.bin .Mult (.int 93) (.int 12)) (.bin .Mult (.int 45) (.int 12))) (by kernel_rfl)) ?_ hadd) (fun f s2 pst => ?_) fun _ _ e => e)
    · rfl
    · obtain ⟨X2, α2, J2, R2, hf⟩ := pst
      cases hf
      refine wpAny_mono (law_tail g hP hat hat0 hp.ok hA6 O hn fuel _ X2 α2 _ s2 σ' _ J2 hrun) (fun fl s' pst => ?_) fun _ _ e => e
      obtain ⟨X'', α', J', R', u, rfl, pu⟩ := pst
      have R3 := R2.trans R'
      have hv : u = .bool true := by unfold Den at pu; exact pu
      subst hv
      obtain ⟨x1, x2, qs', t1, t2, t3⟩ := J'.ysub tabA rfl
      have m3 : Mono s'.heap X'' s'.heap (fun a => a = tabA) := fun b ob e n => ⟨e, fun h => n (h ▸ x1)⟩
      exact ⟨rfl, fun b ob hb e => (R3.1 b ob (kp.grow _ _ e) (fr b ob e hb)).1, ⟨qs', t1, t2, t3.mono m3⟩, Nat.le_trans kp.2 R3.2.2, J'.rest.1, J'.rest.2⟩
end
end Mine
end

/-! U0 -/
section
open PySem PySem.W PyProof.Rows
set_option maxRecDepth 100000

namespace Mine

/-- slots written out -/
noncomputable def mk (l : List SV) : Slots := fun i => (l[i]?).getD .un
noncomputable def kill (x : Nat) : SV → SV
  | .bound z => if z = x then .un else .bound z
  | s => s
noncomputable def putL (l : List SV) (x : Nat) (v : SV) : List SV := (l.map (kill x)).set x v

theorem mk_at (l : List SV) (i : Nat) : mk l i = (l[i]?).getD .un := rfl
theorem put_mk {l : List SV} {x : Nat} {v : SV} (h : x < l.length) : put (mk l) x v = mk (putL l x v) := by
  funext y
  unfold put putL
  rw [mk_at, mk_at, List.getElem?_set]
  by_cases hy : y = x
  · subst hy
    simp [h]
  · have hy' : ¬ x = y := fun e => hy e.symm
    simp only [hy, hy', if_false, List.getElem?_map]
    cases hl : l[y]? with
    | none => rfl
    | some s => cases s <;> rfl
theorem upd_mk {l : List SV} {x : Nat} {v : SV} (h : x < l.length) : upd (mk l) x v = mk (l.set x v) := by
  funext y
  unfold upd
  rw [mk_at, mk_at, List.getElem?_set]
  by_cases hy : y = x
  · subst hy
    simp [h]
  · have hy' : ¬ x = y := fun e => hy e.symm
    simp only [hy, hy', if_false]
theorem slots0_mk (k : Nat) (ds : List D) : slots0 ds = mk (ds.map SV.val ++ List.replicate k .un) := by
  funext i
  unfold slots0
  rw [mk_at, List.getElem?_append]
  by_cases h : i < ds.length
  · simp [h]
  · have h2 : ds.length ≤ i := Nat.le_of_not_lt h
    simp only [List.length_map, h, if_false]
    rw [List.getElem?_eq_none h2, List.getElem?_replicate]
    by_cases h3 : i - ds.length < k
    · simp [h3]
    · simp [h3]

theorem kill_un {x} : kill x .un = .un := rfl
theorem kill_val {x d} : kill x (.val d) = .val d := rfl
theorem kill_own {x d} : kill x (.own d) = .own d := rfl
theorem kill_ptr {x d} : kill x (.ptr d) = .ptr d := rfl
theorem kill_bound {x z} : kill x (.bound z) = if z = x then .un else .bound z := rfl

inductive Itm where
  | star
  | set (g : Option Nat) (e : Option Bool) (b : Bool)

noncomputable def starD : D := .str [97, 32, 115, 116, 97, 114]
noncomputable def enc : Itm → D
  | .star => starD
  | .set g e b => .tup [g.elim .none (fun n => .int n), e.elim .none .bool, .bool b]

noncomputable def askedI (n : Nat) : List Itm :=
  let g := n / 12 % 64
  let e := n / 768 % 2 == 0
  match n % 12 with
  | 2 => [.set (some ((g + 1) % 64)) (some e) true]
  | 3 => [.set none (some e) false]
  | 4 => [.set none (some e) false]
  | 5 => [.set none none false]
  | 6 => [.star]
  | 7 => [.star]
  | 8 => [.star, .set (some g) (some e) false]
  | 9 => [.set (some g) (some e) false, .star]
  | 10 => [.set (some ((g + 1) % 64)) (some e) false]
  | 11 => []
  | _ => [.set (some g) (some e) false]

theorem phi_asked (k : Nat) (ds : List D) : Φs (k + 1) "_law_asked" ds = runFn (Φs k) fuel 1 code_law_asked ds := rfl
theorem phi_written (k : Nat) (ds : List D) : Φs (k + 1) "_law_written" ds = runFn (Φs k) fuel 1 code_law_written ds := rfl
theorem phi_fits (k : Nat) (ds : List D) : Φs (k + 1) "_law_fits" ds = runFn (Φs k) fuel 2 code_law_fits ds := rfl
theorem phi_sign (k : Nat) (ds : List D) : Φs (k + 1) "_law_sign" ds = runFn (Φs k) fuel 2 code_law_sign ds := rfl
theorem phi_lies (k : Nat) (ds : List D) : Φs (k + 1) "_law_lies" ds = runFn (Φs k) fuel 3 code_law_lies ds := rfl
theorem phi_sets (k : Nat) (ds : List D) : Φs (k + 1) "_law_sets" ds = runFn (Φs k) fuel 2 code_law_sets ds := rfl
theorem phi_pieces (k : Nat) (ds : List D) : Φs (k + 1) "_law_pieces" ds = runFn (Φs k) fuel 1 code_law_pieces ds := rfl
theorem phi_takes (k : Nat) (ds : List D) : Φs (k + 1) "_law_takes" ds = runFn (Φs k) fuel 2 code_law_takes ds := rfl
theorem phi_answers (k : Nat) (ds : List D) : Φs (k + 1) "_law_answers" ds = runFn (Φs k) fuel 2 code_law_answers ds := rfl
theorem phi_join (k : Nat) (ds : List D) : Φs (k + 1) "_join_translated_parts" ds = runFn (Φs k) fuel 2 code_join_translated_parts ds := rfl
theorem phi_digits (k : Nat) (ds : List D) : Φs (k + 1) "_law_digits" ds = runFn (Φs k) fuel 1 code_law_digits ds := rfl

theorem run_fn {Φ : Str → List D → Option D} {ar : Nat} {code : List S} {ds : List D} {σ' : Slots} {d : D} (k : Nat) (h : ds.length = ar) (e : run Φ 2000 code (mk (ds.map SV.val ++ List.replicate k .un)) = some (σ', .ret d)) : runFn Φ fuel ar code ds = some d := by
  unfold runFn
  rw [if_pos h, slots0_mk k]; exact congrArg retO e

theorem run_nil {Φ : Str → List D → Option D} {n : Nat} {σ : Slots} : run Φ (n + 1) [] σ = some (σ, .nxt) := id rfl
theorem run_cons {Φ : Str → List D → Option D} {n : Nat} {c : S} {r : List S} {σ σ' : Slots} (h : step Φ (run Φ n) n c σ = some (σ', .nxt)) : run Φ (n + 1) (c :: r) σ = run Φ n r σ' := congrArg (seqR (run Φ n r)) h
theorem run_ret {Φ : Str → List D → Option D} {n : Nat} {c : S} {r : List S} {σ σ' : Slots} {d : D} (h : step Φ (run Φ n) n c σ = some (σ', .ret d)) : run Φ (n + 1) (c :: r) σ = some (σ', .ret d) := congrArg (seqR (run Φ n r)) h
theorem run_brk {Φ : Str → List D → Option D} {n : Nat} {c : S} {r : List S} {σ σ' : Slots} (h : step Φ (run Φ n) n c σ = some (σ', .brk)) : run Φ (n + 1) (c :: r) σ = some (σ', .brk) := congrArg (seqR (run Φ n r)) h

end Mine
end

/-! U1 -/
section
open PySem PySem.W PyProof.Rows
set_option maxRecDepth 100000
set_option linter.unusedSimpArgs false

namespace Mine

noncomputable def vS : SV → Option D
  | .val d => some d
  | _ => none
noncomputable def vB : SV → Option D
  | .val d => some d
  | .own l => some (.list l)
  | _ => none

theorem b1_s {f x} : b1 f (some x) = f x := id rfl
theorem b2_s {f x y} : b2 f (some x) (some y) = f x y := id rfl
theorem b3_s {f x y z} : b3 f (some x) (some y) (some z) = f x y z := id rfl
theorem vS_v {d} : vS (.val d) = some d := id rfl
theorem vB_v {d} : vB (.val d) = some d := id rfl
theorem vB_o {d} : vB (.own d) = some (.list d) := id rfl
theorem tD_b {b} : tD (.bool b) = some (.bool b) := id rfl
theorem tD_i {i} : tD (.int i) = some (.bool (i != 0)) := id rfl
theorem tD_s {l : List Nat} (h : l.length ≤ 16777216) : tD (.str l) = some (.bool (!l.isEmpty)) := by
  exact congrArg tB (if_pos h)
theorem tD_l {l : List D} (h : l.length ≤ 16777216) : tD (.list l) = some (.bool (!l.isEmpty)) := by
  exact congrArg tB (if_pos h)
theorem andS_t {b} : andS (some (.bool true)) b = b := id rfl
theorem andS_f {b} : andS (some (.bool false)) b = some (.bool false) := id rfl
theorem andS_b {x y} : andS (some (.bool x)) (some (.bool y)) = some (.bool (x && y)) := by cases x <;> rfl
theorem andT_t {b} : andT (some (.bool true)) b = b := id rfl
theorem andT_f {b} : andT (some (.bool false)) b = some (.bool false) := id rfl
theorem andT_b {x y} : andT (some (.bool x)) (some (.bool y)) = some (.bool (x && y)) := by cases x <;> rfl
theorem orT_t {b} : orT (some (.bool true)) b = some (.bool true) := id rfl
theorem orT_f {b} : orT (some (.bool false)) b = b := id rfl
theorem orT_b {x y} : orT (some (.bool x)) (some (.bool y)) = some (.bool (x || y)) := by cases x <;> rfl
theorem notT_b {b} : notT (some (.bool b)) = some (.bool (!b)) := id rfl
theorem iteE_t {a b} : iteE (some (.bool true)) a b = a := id rfl
theorem iteE_f {a b} : iteE (some (.bool false)) a b = b := id rfl

section
variable {Φ : Str → List D → Option D} {σ : Slots} {m : Mode} {a b c e : E}
theorem fin_s {r} : Mine.fin .strict r = r := id rfl
theorem fin_b {r} : Mine.fin .borrow r = r := id rfl
theorem fin_t {d} : Mine.fin .test (some d) = tD d := id rfl
theorem fin_n : Mine.fin m none = none := by cases m <;> rfl
theorem e_varS {l : List SV} {x : Nat} : evm Φ .strict (.var x) (mk l) = vS ((l[x]?).getD .un) := by
  show varV .strict (mk l x) = _
  rw [mk_at]; generalize (l[x]?).getD SV.un = s; cases s <;> rfl
theorem e_varB {l : List SV} {x : Nat} : evm Φ .borrow (.var x) (mk l) = vB ((l[x]?).getD .un) := by
  show varV .borrow (mk l x) = _
  rw [mk_at]; generalize (l[x]?).getD SV.un = s; cases s <;> rfl
theorem e_varT {l : List SV} {x : Nat} : evm Φ .test (.var x) (mk l) = b1 tD (vB ((l[x]?).getD .un)) := by
  show varV .test (mk l x) = _
  rw [mk_at]; generalize (l[x]?).getD SV.un = s; cases s <;> rfl
theorem e_none : evm Φ .strict .none σ = some .none := id rfl
theorem e_noneB : evm Φ .borrow .none σ = some .none := id rfl
theorem e_bool {x} : evm Φ .strict (.bool x) σ = some (.bool x) := id rfl
theorem e_boolB {x} : evm Φ .borrow (.bool x) σ = some (.bool x) := id rfl
theorem e_boolT {x} : evm Φ .test (.bool x) σ = some (.bool x) := id rfl
theorem e_int {i} : evm Φ .strict (.int i) σ = some (.int i) := id rfl
theorem e_intB {i} : evm Φ .borrow (.int i) σ = some (.int i) := id rfl
theorem e_intN {n : Nat} : evm Φ .strict (.int (no_index (@OfNat.ofNat Int n instOfNat))) σ = some (.int ((@OfNat.ofNat Nat n (instOfNatNat n) : Nat) : Int)) := id rfl
theorem e_intBN {n : Nat} : evm Φ .borrow (.int (no_index (@OfNat.ofNat Int n instOfNat))) σ = some (.int ((@OfNat.ofNat Nat n (instOfNatNat n) : Nat) : Int)) := id rfl
theorem e_neg : evm Φ .strict (.int (-1)) σ = some (.int (-1)) := id rfl
theorem e_str {i} : evm Φ .strict (.str i) σ = some (.str i) := id rfl
theorem e_strB {i} : evm Φ .borrow (.str i) σ = some (.str i) := id rfl
theorem e_bin {op} : evm Φ m (.bin op a b) σ = Mine.fin m (b2 (binD op) (evm Φ .strict a σ) (evm Φ .strict b σ)) := id rfl
theorem e_cmp {op} : evm Φ m (.cmp op a b) σ = Mine.fin m (b2 (cmpD op) (evm Φ .borrow a σ) (evm Φ .borrow b σ)) := id rfl
theorem e_cmp3 {o1 o2} : evm Φ .test (.cmp3 o1 o2 a b c) σ = c3 o1 o2 (evm Φ .borrow a σ) (evm Φ .borrow b σ) (evm Φ .borrow c σ) := id rfl
theorem e_andS : evm Φ .strict (.and a b) σ = andS (evm Φ .strict a σ) (evm Φ .strict b σ) := id rfl
theorem e_andB : evm Φ .borrow (.and a b) σ = andS (evm Φ .strict a σ) (evm Φ .strict b σ) := id rfl
theorem e_andT : evm Φ .test (.and a b) σ = andT (evm Φ .test a σ) (evm Φ .test b σ) := id rfl
theorem e_orT : evm Φ .test (.or a b) σ = orT (evm Φ .test a σ) (evm Φ .test b σ) := id rfl
theorem e_notT : evm Φ .test (.not a) σ = notT (evm Φ .test a σ) := id rfl
theorem e_iteS : evm Φ .strict (.ite a b c) σ = iteE (evm Φ .test a σ) (evm Φ .strict b σ) (evm Φ .strict c σ) := id rfl
theorem e_tup2 : evm Φ m (.tup2 a b) σ = Mine.fin m (b2 (fun x y => some (.tup [x, y])) (evm Φ .strict a σ) (evm Φ .strict b σ)) := id rfl
theorem e_tup3 : evm Φ m (.tup3 a b c) σ = Mine.fin m (b3 (fun x y z => some (.tup [x, y, z])) (evm Φ .strict a σ) (evm Φ .strict b σ) (evm Φ .strict c σ)) := id rfl
theorem e_lst0 : evm Φ m .lst0 σ = Mine.fin m (some (.list [])) := id rfl
theorem e_lst1 : evm Φ m (.lst1 a) σ = Mine.fin m (b1 (fun x => some (.list [x])) (evm Φ .strict a σ)) := id rfl
theorem e_lst2 : evm Φ m (.lst2 a b) σ = Mine.fin m (b2 (fun x y => some (.list [x, y])) (evm Φ .strict a σ) (evm Φ .strict b σ)) := id rfl
theorem e_idx : evm Φ m (.idx a b) σ = Mine.fin m (b2 idxD (evm Φ .borrow a σ) (evm Φ .strict b σ)) := id rfl
theorem e_slc : evm Φ m (.slc a b c) σ = Mine.fin m (b3 slcE (evm Φ .borrow a σ) (evm Φ .strict b σ) (evm Φ .strict c σ)) := id rfl
theorem e_rev : evm Φ m (.rev a) σ = Mine.fin m (b1 revD (evm Φ .borrow a σ)) := id rfl
theorem e_call1 {f} : evm Φ m (.call1 f a) σ = Mine.fin m (b1 (fun x => Φ f [x]) (evm Φ .strict a σ)) := id rfl
theorem e_call2 {f} : evm Φ m (.call2 f a b) σ = Mine.fin m (b2 (fun x y => Φ f [x, y]) (evm Φ .strict a σ) (evm Φ .strict b σ)) := id rfl
theorem e_call3 {f} : evm Φ m (.call3 f a b c) σ = Mine.fin m (b3 (fun x y z => Φ f [x, y, z]) (evm Φ .strict a σ) (evm Φ .strict b σ) (evm Φ .strict c σ)) := id rfl
theorem e_len : evm Φ m (.len a) σ = Mine.fin m (b1 lenD (evm Φ .borrow a σ)) := id rfl
theorem e_chr : evm Φ m (.chr a) σ = Mine.fin m (b1 chrD (evm Φ .strict a σ)) := id rfl
theorem e_join {s} : evm Φ m (.join s a) σ = Mine.fin m (b1 (joinD s) (evm Φ .borrow a σ)) := id rfl
theorem e_repl {y z} : evm Φ m (.repl a y z) σ = Mine.fin m (b1 (fun x => replD x y z) (evm Φ .strict a σ)) := id rfl
theorem e_find {y} : evm Φ m (.find a y b c) σ = Mine.fin m (b3 (fun x k j => findD x y k j) (evm Φ .strict a σ) (evm Φ .strict b σ) (evm Φ .strict c σ)) := id rfl
theorem e_cat3 : evm Φ m (.cat3 a b c) σ = Mine.fin m (b3 catD (evm Φ .strict a σ) (evm Φ .strict b σ) (evm Φ .strict c σ)) := id rfl
theorem e_comp {x vis} : evm Φ m (.comp x vis a b) σ = Mine.fin m (compE (fun d => someO (evm Φ .strict a (upd (inner σ vis) x (.val d)))) (evm Φ .borrow b σ)) := id rfl
theorem e_compr {x vis} : evm Φ m (.compr x vis a b) σ = Mine.fin m (comprE (fun d => someO (evm Φ .strict a (upd (inner σ vis) x (.val d)))) (evm Φ .strict b σ)) := id rfl
theorem e_compc {x y vis} : evm Φ m (.compc x y vis a b) σ = Mine.fin m (compE (pairO fun p q => evm Φ .test a (upd (upd (inner σ vis) x (.val p)) y (.val q))) (evm Φ .borrow b σ)) := id rfl
end

theorem run_fnE {Φ : Str → List D → Option D} {ar : Nat} {code : List S} {ds : List D} {d : D} (k : Nat) (h : ds.length = ar) (e : ∃ σ', run Φ 2000 code (mk (ds.map SV.val ++ List.replicate k .un)) = some (σ', .ret d)) : runFn Φ fuel ar code ds = some d := by
  obtain ⟨σ', e⟩ := e
  exact run_fn k h e
theorem retE {r : Option (Slots × Flw)} {σ : Slots} {d : D} (h : r = some (σ, .ret d)) : ∃ σ', r = some (σ', .ret d) := ⟨σ, h⟩

/-! data -/
theorem bin_add {a b : Int} : binD .Add (.int a) (.int b) = some (.int (a + b)) := id rfl
theorem bin_adds {a b : List Nat} : binD .Add (.str a) (.str b) = if a.length + b.length ≤ lim then some (.str (a ++ b)) else none := by
  show orr (if a.length + b.length ≤ lim then some (D.str (a ++ b)) else none) none = _
  split <;> rfl
theorem bin_addl {a b : List D} : binD .Add (.list a) (.list b) = if a.length + b.length ≤ lim then some (.list (a ++ b)) else none := id rfl
theorem bin_sub {a b : Int} : binD .Sub (.int a) (.int b) = some (.int (a - b)) := id rfl
theorem bin_mul {a b : Int} : binD .Mult (.int a) (.int b) = if -10000 < b ∧ b < 10000 then some (.int (a * b)) else none := id rfl
theorem bin_mod {a b : Int} : binD .Mod (.int a) (.int b) = if b ≠ 0 then some (.int (a.fmod b)) else none := id rfl
theorem bin_fdv {a b : Int} : binD .FloorDiv (.int a) (.int b) = if 0 < b ∧ b < 18446744073709551616 then some (.int (a.fdiv b)) else none := id rfl
theorem bin_pow {a b : Int} : binD .Pow (.int a) (.int b) = if a = 64 ∧ 0 ≤ b ∧ b < 1000 then some (.int (a ^ b.toNat)) else none := id rfl
theorem inp_add {a b : Int} : inpD .Add (.int a) (.int b) = some (.int (a + b)) := id rfl
theorem eq_int {a b : Int} : cmpD .Eq (.int a) (.int b) = some (.bool (a == b)) := id rfl
theorem eq_str {a b : List Nat} : cmpD .Eq (.str a) (.str b) = some (.bool (a == b)) := id rfl
theorem eq_bool {a b : Bool} : cmpD .Eq (.bool a) (.bool b) = some (.bool (a == b)) := id rfl
theorem eq_tups {a : List D} {b : List Nat} : cmpD .Eq (.tup a) (.str b) = some (.bool false) := id rfl
theorem eq_list {a b : List D} : cmpD .Eq (.list a) (.list b) = yesO (if a.length = b.length then eqL a b else some false) := id rfl
theorem ne_bool' {a b : Bool} : cmpD .NotEq (.bool a) (.bool b) = some (.bool (a != b)) := id rfl
theorem ne_int' {a b : Int} : cmpD .NotEq (.int a) (.int b) = some (.bool (a != b)) := id rfl
theorem ne_str' {a b : List Nat} : cmpD .NotEq (.str a) (.str b) = some (.bool (a != b)) := id rfl
theorem ne_list' {a b : List D} : cmpD .NotEq (.list a) (.list b) = if a.length = b.length then notO (eqL a b) else some (.bool true) := id rfl
theorem lt_int' {a b : Int} : cmpD .Lt (.int a) (.int b) = some (.bool (decide (a < b))) := id rfl
theorem le_int' {a b : Int} : cmpD .LtE (.int a) (.int b) = some (.bool (decide (a ≤ b))) := id rfl
theorem gt_int' {a b : Int} : cmpD .Gt (.int a) (.int b) = some (.bool (decide (b < a))) := id rfl
theorem ge_int' {a b : Int} : cmpD .GtE (.int a) (.int b) = some (.bool (decide (b ≤ a))) := id rfl
theorem le_str' {a b : List Nat} : cmpD .LtE (.str a) (.str b) = some (.bool (!(ltL b a))) := id rfl
theorem gt_str' {a b : List Nat} : cmpD .Gt (.str a) (.str b) = some (.bool (ltL b a)) := id rfl
theorem in_str' {a b : List Nat} : cmpD .In (.str a) (.str b) = some (.bool (inStr a b)) := id rfl
theorem nin_str' {a b : List Nat} : cmpD .NotIn (.str a) (.str b) = some (.bool (!(inStr a b))) := id rfl
theorem is_any {a b : D} : cmpD .Is a b = yesO (isD a b) := id rfl
theorem isn_any {a b : D} : cmpD .IsNot a b = notO (isD a b) := id rfl
theorem orr_none {α : Type} (x : Option α) : orr x none = x := by cases x <;> rfl
theorem in_tup' {a : D} {l : List D} : cmpD .In a (.tup l) = yesO (anyS a l) := by cases a <;> exact orr_none _
theorem in_list' {a : D} {l : List D} : cmpD .In a (.list l) = yesO (anyS a l) := by cases a <;> rfl
theorem yes_s {b} : yesO (some b) = some (.bool b) := id rfl
theorem no_s {b} : notO (some b) = some (.bool (!b)) := id rfl
theorem part_i {i} : partD (.int i) = some (some i) := id rfl
theorem part_n : partD .none = some none := id rfl
theorem len_str' {l : List Nat} (h : l.length ≤ lim) : lenD (.str l) = some (.int l.length) := if_pos h
theorem len_list' {l : List D} (h : l.length ≤ lim) : lenD (.list l) = some (.int l.length) := if_pos h
theorem chr_nat {n : Nat} (h : n ≤ 1114111) : chrD (.int n) = some (.str [n]) := (if_pos ⟨Int.natCast_nonneg n, Int.ofNat_le.mpr h⟩).trans rfl
section
variable {i : Nat} (hb : i < 4611686018427387904)
include hb
theorem idx_ok : 0 ≤ (i : Int) ∧ (i : Int) < 4611686018427387904 := by omega
theorem ixS_n {l : List Nat} : ixS l (i : Int) = chO l[i]? := by
  unfold ixS
  rw [if_pos (idx_ok hb), Int.toNat_natCast]
theorem ixL_n {l : List D} : ixL l (i : Int) = l[i]? := by
  unfold ixL
  rw [if_pos (idx_ok hb), Int.toNat_natCast]
theorem ixT_n {l : List D} : ixT l (i : Int) = l[i]? := by
  unfold ixT
  rw [if_pos (idx_ok hb), Int.toNat_natCast]
end
theorem idxD_s {l : List Nat} {i : Int} : idxD (.str l) (.int i) = ixS l i := rfl
theorem idxD_l {l : List D} {i : Int} : idxD (.list l) (.int i) = ixL l i := rfl
theorem idxD_t {l : List D} {i : Int} : idxD (.tup l) (.int i) = ixT l i := rfl
theorem idx_str' {l : List Nat} {i c : Nat} (h : l[i]? = some c) (hb : i < 4611686018427387904) : idxD (.str l) (.int i) = some (.str [c]) := idxD_s.trans ((ixS_n hb).trans (congrArg chO h))
theorem idx_list' {l : List D} {i : Nat} {d : D} (h : l[i]? = some d) (hb : i < 4611686018427387904) : idxD (.list l) (.int i) = some d := idxD_l.trans ((ixL_n hb).trans h)
theorem idx_tup' {l : List D} {i : Nat} {d : D} (h : l[i]? = some d) (hb : i < 4611686018427387904) : idxD (.tup l) (.int i) = some d := idxD_t.trans ((ixT_n hb).trans h)

theorem fdv_nat {a b : Nat} : ((a : Int)).fdiv (b : Int) = ((a / b : Nat) : Int) := by
  rw [Int.fdiv_eq_ediv_of_nonneg _ (by omega)]; rfl
theorem fmd_nat {a b : Nat} : ((a : Int)).fmod (b : Int) = ((a % b : Nat) : Int) := by
  rw [Int.fmod_eq_emod_of_nonneg _ (by omega)]; rfl
theorem n_add {a b : Nat} : binD .Add (.int (a : Int)) (.int (b : Int)) = some (.int ((a + b : Nat) : Int)) := id rfl
theorem n_sub {a b : Nat} (h : b ≤ a) : binD .Sub (.int (a : Int)) (.int (b : Int)) = some (.int ((a - b : Nat) : Int)) := by
  rw [bin_sub, Int.ofNat_sub h]
theorem n_mul {a b : Nat} (h : b < 10000) : binD .Mult (.int (a : Int)) (.int (b : Int)) = some (.int ((a * b : Nat) : Int)) := by
  rw [bin_mul, if_pos (by omega), Int.natCast_mul]
theorem n_mod {a b : Nat} (h : 0 < b) : binD .Mod (.int (a : Int)) (.int (b : Int)) = some (.int ((a % b : Nat) : Int)) := by
  rw [bin_mod, if_pos (by omega), fmd_nat]
theorem n_fdv {a b : Nat} (h : 0 < b) (h2 : b < 18446744073709551616) : binD .FloorDiv (.int (a : Int)) (.int (b : Int)) = some (.int ((a / b : Nat) : Int)) := by
  rw [bin_fdv, if_pos (by omega), fdv_nat]
theorem n_pow {b : Nat} (h : b < 1000) : binD .Pow (.int ((64 : Nat) : Int)) (.int (b : Int)) = some (.int ((64 ^ b : Nat) : Int)) := by
  rw [bin_pow, if_pos ⟨rfl, by omega, by omega⟩]
  simp
theorem n_iadd {a b : Nat} : inpD .Add (.int (a : Int)) (.int (b : Int)) = some (.int ((a + b : Nat) : Int)) := id rfl
theorem n_eq {a b : Nat} : cmpD .Eq (.int (a : Int)) (.int (b : Int)) = some (.bool (a == b)) := by
  rw [show cmpD .Eq (.int (a : Int)) (.int (b : Int)) = some (.bool ((a : Int) == (b : Int))) from rfl]
  congr 2
  rw [Bool.eq_iff_iff]; simp only [beq_iff_eq, bne_iff_ne, ne_eq]; omega
theorem n_ne {a b : Nat} : cmpD .NotEq (.int (a : Int)) (.int (b : Int)) = some (.bool (a != b)) := by
  rw [show cmpD .NotEq (.int (a : Int)) (.int (b : Int)) = some (.bool ((a : Int) != (b : Int))) from rfl]
  congr 2
  rw [Bool.eq_iff_iff]; simp only [beq_iff_eq, bne_iff_ne, ne_eq]; omega
theorem n_lt {a b : Nat} : cmpD .Lt (.int (a : Int)) (.int (b : Int)) = some (.bool (decide (a < b))) := by
  rw [lt_int']; congr 2; simp
theorem n_le {a b : Nat} : cmpD .LtE (.int (a : Int)) (.int (b : Int)) = some (.bool (decide (a ≤ b))) := by
  rw [le_int']; congr 2; simp
theorem n_gt {a b : Nat} : cmpD .Gt (.int (a : Int)) (.int (b : Int)) = some (.bool (decide (b < a))) := by
  rw [gt_int']; congr 2; simp
theorem n_ge {a b : Nat} : cmpD .GtE (.int (a : Int)) (.int (b : Int)) = some (.bool (decide (b ≤ a))) := by
  rw [ge_int']; congr 2; simp
noncomputable def anyC (b : Bool) (o : Option Bool) : Option Bool := andO (fun c => b || c) o
theorem anyC_s {b c} : anyC b (some c) = some (b || c) := id rfl
theorem any_cons {x y : D} {l : List D} {b : Bool} (h : eqS y x = some b) : anyS x (y :: l) = anyC b (anyS x l) := by
  exact congrArg (onO fun b => andO (fun c => b || c) (anyS x l)) h
theorem n_any {a : Nat} {l : List D} {b : Nat} : anyS (.int (a : Int)) (.int (b : Int) :: l) = anyC (b == a) (anyS (.int (a : Int)) l) := by
  have e : eqS (.int (b : Int)) (.int (a : Int)) = some (b == a) := by
    show some ((b : Int) == (a : Int)) = _
    congr 1
    rw [Bool.eq_iff_iff]; simp only [beq_iff_eq, bne_iff_ne, ne_eq]; omega
  exact any_cons e
theorem any_nil {a : D} : anyS a [] = some false := id rfl

theorem is_ii {a : Int} : isD (.int a) .none = some false := id rfl
theorem is_bn {a : Bool} : isD (.bool a) .none = some false := id rfl
theorem is_nn : isD .none .none = some true := id rfl
theorem is_so {a : List Nat} {b : Addr} : isD (.str a) (.obj b) = some false := id rfl
theorem is_oo {b : Addr} : isD (.obj b) (.obj b) = some true := if_pos rfl
theorem s_add' {a b : List Nat} (h : a.length + b.length ≤ 16777216) : binD .Add (.str a) (.str b) = some (.str (a ++ b)) := bin_adds.trans (if_pos h)
theorem l_add' {a b : List D} (h : a.length + b.length ≤ 16777216) : binD .Add (.list a) (.list b) = some (.list (a ++ b)) := if_pos h
theorem cat_s {a b c : List Nat} (h : a.length + b.length + c.length ≤ 16777216) : catD (.str a) (.str b) (.str c) = some (.str (a ++ b ++ c)) := if_pos h
theorem len_s {l : List Nat} (h : l.length ≤ 16777216) : lenD (.str l) = some (.int ((l.length : Nat) : Int)) := if_pos h
theorem len_l {l : List D} (h : l.length ≤ 16777216) : lenD (.list l) = some (.int ((l.length : Nat) : Int)) := if_pos h
theorem slc_s {l : List Nat} {i j : Nat} (h : l.length ≤ 16777216) : slcE (.str l) (.int (i : Int)) (.int (j : Int)) = some (.str ((l.take j).drop i)) := if_pos ⟨Int.natCast_nonneg i, Int.natCast_nonneg j, h⟩
theorem slc_sl {l : List Nat} {i : Nat} (h : l.length ≤ 16777216) : slcE (.str l) (.int (i : Int)) .none = some (.str (l.drop i)) := (if_pos ⟨Int.natCast_nonneg i, Int.le_refl 0, h⟩).trans (congrArg (fun l : List Nat => some (D.str (l.drop i))) List.take_length)
theorem slc_sr {l : List Nat} {i : Nat} (h : l.length ≤ 16777216) : slcE (.str l) .none (.int (i : Int)) = some (.str (l.take i)) := if_pos ⟨Int.le_refl 0, Int.natCast_nonneg i, h⟩

/-! statements -/
theorem seqR_n {f σ} : seqR f (some (σ, .nxt)) = f σ := id rfl
theorem seqR_r {f σ d} : seqR f (some (σ, .ret d)) = some (σ, .ret d) := id rfl
theorem seqR_b {f σ} : seqR f (some (σ, .brk)) = some (σ, .brk) := id rfl
theorem run_c {Φ : Str → List D → Option D} {n : Nat} {c : S} {r : List S} {σ : Slots} : run Φ (n + 1) (c :: r) σ = seqR (run Φ n r) (step Φ (run Φ n) n c σ) := id rfl
theorem run_n {Φ : Str → List D → Option D} {n : Nat} {σ : Slots} : run Φ (n + 1) [] σ = some (σ, .nxt) := id rfl

theorem kset_s {x σ d} : kset x σ (some d) = some (put σ x (.val d), .nxt) := id rfl
theorem kown_s {x σ d} : kown x σ (some d) = some (put σ x (.own [d]), .nxt) := id rfl
theorem kunp2_s {x y σ a b} : kunp2 x y σ (some (.tup [a, b])) = some (put (put σ x (.val a)) y (.val b), .nxt) := id rfl
theorem kunp3_s {x y z σ a b c} : kunp3 x y z σ (some (.tup [a, b, c])) = some (put (put (put σ x (.val a)) y (.val b)) z (.val c), .nxt) := id rfl
theorem kswp_s {x y σ p q} : kswp x y σ (some p) (some q) = some (put (put σ y (.val q)) x (.val p), .nxt) := id rfl
theorem kaug_i {x σ} {a b : Int} : kaug .Add x σ (.val (.int a)) (some (.int b)) = some (put σ x (.val (.int (a + b))), .nxt) := id rfl
theorem kaug_n {x σ} {a b : Nat} : kaug .Add x σ (.val (.int (a : Int))) (some (.int (b : Int))) = some (put σ x (.val (.int ((a + b : Nat) : Int))), .nxt) := id rfl
theorem kapp_n {x σ l d} (h : l.length ≤ 16777216) : kapp x σ (.own l) (some d) = some (upd σ x (.own (l ++ [d])), .nxt) := if_pos h
theorem kapp_s {x σ l d} (h : l.length ≤ lim) : kapp x σ (.own l) (some d) = some (upd σ x (.own (l ++ [d])), .nxt) := if_pos h
theorem kext_s {x σ l r} (h : l.length + r.length ≤ lim) : kext x σ (.own l) (some (.list r)) = some (upd σ x (.own (l ++ r)), .nxt) := if_pos h
theorem kadd_s {σ y d} : kadd σ (.bound y) d = kapp y σ (σ y) d := id rfl
theorem kite_t {f g σ} : kite f g σ (some (.bool true)) = f σ := id rfl
theorem kite_f {f g σ} : kite f g σ (some (.bool false)) = g σ := id rfl
theorem kret_s {σ d} : kret σ (some d) = some (σ, .ret d) := id rfl
theorem kasr_t {σ} : kasr σ (some (.bool true)) = some (σ, .nxt) := id rfl
theorem kspec_s {σ} : kspec (some σ) = some (σ, .nxt) := id rfl
theorem kfor_s {f x σ l} : kfor f x σ (some (.list l)) = loopL f x l σ := id rfl
theorem kforr_s {f x σ} {k : Int} (h : 0 ≤ k ∧ k ≤ 1000000) : kforr f x σ (some (.int k)) = loopL f x (rangeL k) σ := if_pos h

section
variable {Φ : Str → List D → Option D} {rn : List S → Slots → Option (Slots × Flw)} {n x y z : Nat} {σ : Slots} {a b c e t : E}
theorem s_set : step Φ rn n (.set x e) σ = kset x σ (evm Φ .strict e σ) := id rfl
theorem s_own0 : step Φ rn n (.own0 x) σ = some (put σ x (.own []), .nxt) := id rfl
theorem s_own1 : step Φ rn n (.own1 x e) σ = kown x σ (evm Φ .strict e σ) := id rfl
theorem s_unp2 : step Φ rn n (.unp2 x y e) σ = kunp2 x y σ (evm Φ .strict e σ) := id rfl
theorem s_unp3 : step Φ rn n (.unp3 x y z e) σ = kunp3 x y z σ (evm Φ .strict e σ) := id rfl
theorem s_swp : step Φ rn n (.swp x y a b) σ = kswp x y σ (evm Φ .strict a σ) (evm Φ .strict b σ) := id rfl
theorem s_aug {op} : step Φ rn n (.aug op x e) σ = kaug op x σ (σ x) (evm Φ .strict e σ) := id rfl
theorem s_app : step Φ rn n (.app x e) σ = kapp x σ (σ x) (evm Φ .strict e σ) := id rfl
theorem s_ext : step Φ rn n (.ext x e) σ = kext x σ (σ x) (evm Φ .strict e σ) := id rfl
theorem s_bnd {l : List D} (h : σ y = .own l) (hxy : (x = y) = False) : step Φ rn n (.bnd x y) σ = some (put σ x (.bound y), .nxt) := by
  show kbnd x y σ (σ y) = _
  rw [h]; exact if_neg (of_eq_false hxy)
theorem s_add : step Φ rn n (.add x e) σ = kadd σ (σ x) (evm Φ .strict e σ) := id rfl
theorem s_ife {p q} : step Φ rn n (.ife t p q) σ = kite (rn p) (rn q) σ (evm Φ .test t σ) := id rfl
theorem s_whl {p} : step Φ rn n (.whl t p) σ = loopW (evm Φ .test t) (rn p) n σ := id rfl
theorem s_forl {p} : step Φ rn n (.forl x e p) σ = kfor (rn p) x σ (evm Φ .strict e σ) := id rfl
theorem s_forr {p} : step Φ rn n (.forr x e p) σ = kforr (rn p) x σ (evm Φ .strict e σ) := id rfl
theorem s_ret : step Φ rn n (.ret e) σ = kret σ (evm Φ .strict e σ) := id rfl
theorem s_brk : step Φ rn n .brk σ = some (σ, .brk) := id rfl
theorem s_asr : step Φ rn n (.asr t) σ = kasr σ (evm Φ .test t σ) := id rfl
theorem s_frz : step Φ rn n (.frz x) σ = some (frzS σ x, .nxt) := id rfl
theorem s_spec {f} : step Φ rn n (.spec f) σ = kspec (f σ) := id rfl
theorem frz_mk {l : List SV} {r : List D} (h : (l[x]?).getD .un = .own r) : frzS (mk l) x = put (mk l) x (.val (.list r)) := by
  unfold frzS; rw [mk_at, h]
end

noncomputable def frzK (σ : Slots) (x : Nat) : SV → Slots
  | .own l => put σ x (.val (.list l))
  | _ => σ
theorem frz_k {l : List SV} {x : Nat} : frzS (mk l) x = frzK (mk l) x ((l[x]?).getD .un) := by
  unfold frzS; rw [mk_at]; generalize (l[x]?).getD SV.un = s; cases s <;> rfl
theorem frzK_o {σ x l} : frzK σ x (.own l) = put σ x (.val (.list l)) := id rfl
theorem s_bndk {Φ : Str → List D → Option D} {rn : List S → Slots → Option (Slots × Flw)} {n x y : Nat} {σ : Slots} : step Φ rn n (.bnd x y) σ = kbnd x y σ (σ y) := id rfl
theorem kbnd_o {x y σ l} (h : ¬ x = y) : kbnd x y σ (.own l) = some (put σ x (.bound y), .nxt) := if_neg h

/-! loops -/
section
variable {t : Slots → Option D} {f : Slots → Option (Slots × Flw)} {n : Nat} {σ σ' : Slots}
theorem loopW_end (h : t σ = some (.bool false)) : loopW t f (n + 1) σ = some (σ, .nxt) := congrArg (kite (fun σ => seqL (loopW t f n) (f σ)) (fun σ => some (σ, .nxt)) σ) h
theorem loopW_go {q : Option (Slots × Flw)} (h : t σ = some (.bool true)) (hf : f σ = q) : loopW t f (n + 1) σ = seqL (loopW t f n) q := (congrArg (kite (fun σ => seqL (loopW t f n) (f σ)) (fun σ => some (σ, .nxt)) σ) h).trans (congrArg (seqL (loopW t f n)) hf)
theorem loopW_nxt (h : t σ = some (.bool true)) (hf : f σ = some (σ', .nxt)) : loopW t f (n + 1) σ = loopW t f n σ' := loopW_go h hf
theorem loopW_brk (h : t σ = some (.bool true)) (hf : f σ = some (σ', .brk)) : loopW t f (n + 1) σ = some (σ', .nxt) := loopW_go h hf
theorem loopW_ret {d : D} (h : t σ = some (.bool true)) (hf : f σ = some (σ', .ret d)) : loopW t f (n + 1) σ = some (σ', .ret d) := loopW_go h hf
end
theorem loopL_nil {f : Slots → Option (Slots × Flw)} {x : Nat} {σ : Slots} : loopL f x [] σ = some (σ, .nxt) := id rfl
theorem loopL_nxt {f : Slots → Option (Slots × Flw)} {x : Nat} {d : D} {l : List D} {σ σ' : Slots} (h : f (put σ x (.val d)) = some (σ', .nxt)) : loopL f x (d :: l) σ = loopL f x l σ' := congrArg (seqL (loopL f x l)) h
theorem loopL_ret {f : Slots → Option (Slots × Flw)} {x : Nat} {d e : D} {l : List D} {σ σ' : Slots} (h : f (put σ x (.val d)) = some (σ', .ret e)) : loopL f x (d :: l) σ = some (σ', .ret e) := congrArg (seqL (loopL f x l)) h

/-- what is left over in a slot -/
inductive Gb where
  | u
  | v (d : D)
  | o (l : List D)
noncomputable def Gb.s : Gb → SV
  | .u => .un
  | .v d => .val d
  | .o l => .own l
theorem kill_gb {x : Nat} {g : Gb} : kill x g.s = g.s := by cases g <;> rfl

theorem drop_get {α : Type} {l r : List α} {j : Nat} {c : α} (h : l.drop j = c :: r) : l[j]? = some c := by
  have := List.getElem?_drop (xs := l) (i := j) (j := 0)
  rw [h] at this
  simpa using this.symm
theorem drop_tail {α : Type} {l r : List α} {j : Nat} {c : α} (h : l.drop j = c :: r) : l.drop (j + 1) = r := by
  rw [← List.drop_drop, h]; rfl
theorem drop_lt {α : Type} {l r : List α} {j : Nat} {c : α} (h : l.drop j = c :: r) : j < l.length := by
  have := congrArg List.length h
  simp only [List.length_drop, List.length_cons] at this
  omega
theorem drop_len {α : Type} {l r : List α} {j : Nat} (h : l.drop j = r) (hj : j ≤ l.length) : l.length = j + r.length := by
  have := congrArg List.length h
  simp only [List.length_drop] at this
  omega
theorem drop_app {α : Type} {l p r : List α} {j : Nat} (h : l.drop j = p ++ r) : l.drop (j + p.length) = r := by
  rw [← List.drop_drop, h]; simp
theorem drop_cut {α : Type} {l p r : List α} {j : Nat} (h : l.drop j = p ++ r) : (l.take (j + p.length)).drop j = p := by
  rw [List.drop_take, h, Nat.add_sub_cancel_left]; simp
/-! the rules, bundled -/
theorem rE : type_of% (And.intro @fin_s (And.intro @fin_b (And.intro @fin_t (And.intro @e_varS (And.intro @e_varB (And.intro @e_varT (And.intro @e_none (And.intro @e_noneB (And.intro @e_bool (And.intro @e_boolB (And.intro @e_boolT (And.intro @e_intN (And.intro @e_intBN (And.intro @e_neg (And.intro @e_str (And.intro @e_strB (And.intro @e_bin (And.intro @e_cmp (And.intro @e_cmp3 (And.intro @e_andS (And.intro @e_andB (And.intro @e_andT (And.intro @e_orT (And.intro @e_notT (And.intro @e_iteS (And.intro @e_tup2 (And.intro @e_tup3 (And.intro @e_lst0 (And.intro @e_lst1 (And.intro @e_lst2 (And.intro @e_idx (And.intro @e_slc (And.intro @e_rev (And.intro @e_call1 (And.intro @e_call2 (And.intro @e_call3 (And.intro @e_len (And.intro @e_chr (And.intro @e_join (And.intro @e_repl (And.intro @e_find (And.intro @e_cat3 (And.intro @b1_s (And.intro @b2_s (And.intro @b3_s (And.intro @vS_v (And.intro @vB_v (And.intro @vB_o (And.intro @tD_b (And.intro @tD_i (And.intro @tD_s (And.intro @tD_l (And.intro @andS_t (And.intro @andS_f (And.intro @andT_t (And.intro @andT_f (And.intro @orT_t (And.intro @orT_f (And.intro @notT_b (And.intro @iteE_t (And.intro @iteE_f (And.intro @n_add (And.intro @n_sub (And.intro @n_mul (And.intro @n_mod (And.intro @n_fdv (And.intro @n_pow (And.intro @n_iadd (And.intro @n_eq (And.intro @eq_str (And.intro @eq_bool (And.intro @eq_tups (And.intro @ne_bool' (And.intro @n_ne (And.intro @ne_str' (And.intro @n_lt (And.intro @n_le (And.intro @n_gt (And.intro @n_ge (And.intro @n_any (And.intro @any_nil (And.intro @anyC_s (And.intro @is_ii (And.intro @is_bn (And.intro @is_nn (And.intro @is_so (And.intro @is_oo (And.intro @s_add' (And.intro @l_add' (And.intro @cat_s (And.intro @len_s (And.intro @len_l (And.intro @slc_s (And.intro @slc_sl (And.intro @slc_sr (And.intro @chr_nat (And.intro @le_str' (And.intro @gt_str' (And.intro @in_str' (And.intro @nin_str' (And.intro @is_any (And.intro @isn_any (And.intro @in_tup' (And.intro @yes_s (And.intro @no_s (And.intro @part_i (@part_n))))))))))))))))))))))))))))))))))))))))))))))))))))))))))))))))))))))))))))))))))))))))))))))))))))))))))) := And.intro @fin_s (And.intro @fin_b (And.intro @fin_t (And.intro @e_varS (And.intro @e_varB (And.intro @e_varT (And.intro @e_none (And.intro @e_noneB (And.intro @e_bool (And.intro @e_boolB (And.intro @e_boolT (And.intro @e_intN (And.intro @e_intBN (And.intro @e_neg (And.intro @e_str (And.intro @e_strB (And.intro @e_bin (And.intro @e_cmp (And.intro @e_cmp3 (And.intro @e_andS (And.intro @e_andB (And.intro @e_andT (And.intro @e_orT (And.intro @e_notT (And.intro @e_iteS (And.intro @e_tup2 (And.intro @e_tup3 (And.intro @e_lst0 (And.intro @e_lst1 (And.intro @e_lst2 (And.intro @e_idx (And.intro @e_slc (And.intro @e_rev (And.intro @e_call1 (And.intro @e_call2 (And.intro @e_call3 (And.intro @e_len (And.intro @e_chr (And.intro @e_join (And.intro @e_repl (And.intro @e_find (And.intro @e_cat3 (And.intro @b1_s (And.intro @b2_s (And.intro @b3_s (And.intro @vS_v (And.intro @vB_v (And.intro @vB_o (And.intro @tD_b (And.intro @tD_i (And.intro @tD_s (And.intro @tD_l (And.intro @andS_t (And.intro @andS_f (And.intro @andT_t (And.intro @andT_f (And.intro @orT_t (And.intro @orT_f (And.intro @notT_b (And.intro @iteE_t (And.intro @iteE_f (And.intro @n_add (And.intro @n_sub (And.intro @n_mul (And.intro @n_mod (And.intro @n_fdv (And.intro @n_pow (And.intro @n_iadd (And.intro @n_eq (And.intro @eq_str (And.intro @eq_bool (And.intro @eq_tups (And.intro @ne_bool' (And.intro @n_ne (And.intro @ne_str' (And.intro @n_lt (And.intro @n_le (And.intro @n_gt (And.intro @n_ge (And.intro @n_any (And.intro @any_nil (And.intro @anyC_s (And.intro @is_ii (And.intro @is_bn (And.intro @is_nn (And.intro @is_so (And.intro @is_oo (And.intro @s_add' (And.intro @l_add' (And.intro @cat_s (And.intro @len_s (And.intro @len_l (And.intro @slc_s (And.intro @slc_sl (And.intro @slc_sr (And.intro @chr_nat (And.intro @le_str' (And.intro @gt_str' (And.intro @in_str' (And.intro @nin_str' (And.intro @is_any (And.intro @isn_any (And.intro @in_tup' (And.intro @yes_s (And.intro @no_s (And.intro @part_i (@part_n))))))))))))))))))))))))))))))))))))))))))))))))))))))))))))))))))))))))))))))))))))))))))))))))))))))))))
theorem rR : type_of% (And.intro @run_c (And.intro @run_n (And.intro @seqR_n (And.intro @seqR_r (And.intro @seqR_b (And.intro @kset_s (And.intro @kown_s (And.intro @kunp2_s (And.intro @kunp3_s (And.intro @kswp_s (And.intro @kaug_n (And.intro @kadd_s (And.intro @kapp_n (And.intro @kite_t (And.intro @kite_f (And.intro @kret_s (And.intro @kasr_t (And.intro @kspec_s (And.intro @kfor_s (And.intro @s_forr (And.intro @s_set (And.intro @s_own0 (And.intro @s_own1 (And.intro @s_unp2 (And.intro @s_unp3 (And.intro @s_swp (And.intro @s_aug (And.intro @s_app (And.intro @s_ext (And.intro @s_add (And.intro @s_ife (And.intro @s_whl (And.intro @s_forl (And.intro @s_ret (And.intro @s_brk (And.intro @s_asr (And.intro @s_frz (And.intro @frz_k (And.intro @frzK_o (And.intro @s_bndk (And.intro @kbnd_o (And.intro @s_spec (And.intro @put_mk (And.intro @upd_mk (And.intro @mk_at (And.intro @kill_un (And.intro @kill_val (And.intro @kill_own (And.intro @kill_ptr (And.intro @kill_bound (@kill_gb))))))))))))))))))))))))))))))))))))))))))))))))))) := And.intro @run_c (And.intro @run_n (And.intro @seqR_n (And.intro @seqR_r (And.intro @seqR_b (And.intro @kset_s (And.intro @kown_s (And.intro @kunp2_s (And.intro @kunp3_s (And.intro @kswp_s (And.intro @kaug_n (And.intro @kadd_s (And.intro @kapp_n (And.intro @kite_t (And.intro @kite_f (And.intro @kret_s (And.intro @kasr_t (And.intro @kspec_s (And.intro @kfor_s (And.intro @s_forr (And.intro @s_set (And.intro @s_own0 (And.intro @s_own1 (And.intro @s_unp2 (And.intro @s_unp3 (And.intro @s_swp (And.intro @s_aug (And.intro @s_app (And.intro @s_ext (And.intro @s_add (And.intro @s_ife (And.intro @s_whl (And.intro @s_forl (And.intro @s_ret (And.intro @s_brk (And.intro @s_asr (And.intro @s_frz (And.intro @frz_k (And.intro @frzK_o (And.intro @s_bndk (And.intro @kbnd_o (And.intro @s_spec (And.intro @put_mk (And.intro @upd_mk (And.intro @mk_at (And.intro @kill_un (And.intro @kill_val (And.intro @kill_own (And.intro @kill_ptr (And.intro @kill_bound (@kill_gb))))))))))))))))))))))))))))))))))))))))))))))))))
end Mine
end

/-! U2 -/
section
open PySem PySem.W PyProof.Rows
set_option maxRecDepth 100000
set_option linter.unusedSimpArgs false
namespace Mine

noncomputable def optI (d : D) (g : Option Nat) : Bool := match d with
  | .none => g.isNone
  | .int i => g.elim false fun n => i == (n : Int)
  | _ => false
noncomputable def optB (d : D) (g : Option Bool) : Bool := match d with
  | .none => g.isNone
  | .bool i => g.elim false fun n => i == n
  | _ => false
noncomputable def strE (s : List Nat) : D → Bool
  | .str t => t == s
  | _ => false
noncomputable def tupE (f : List D → Bool) : D → Bool
  | .tup l => f l
  | _ => false
noncomputable def threeE (f : D → D → D → Bool) : List D → Bool
  | [a, b, c] => f a b c
  | _ => false
noncomputable def encQ (d : D) : Itm → Bool
  | .star => strE [97, 32, 115, 116, 97, 114] d
  | .set g e x => tupE (threeE fun a b c => optI a g && (optB b e && optB c (some x))) d
noncomputable def encL : List D → List Itm → Bool
  | [], l => l.isEmpty
  | d :: ds, l => match l with
    | it :: its => encQ d it && encL ds its
    | [] => false
theorem optI_eq {d : D} {g : Option Nat} (h : optI d g = true) : d = g.elim .none (fun n => .int n) := by
  cases d with
  | none => cases g with
    | none => rfl
    | some n => exact Bool.noConfusion h
  | int i => cases g with
    | none => exact Bool.noConfusion h
    | some n => exact congrArg D.int (eq_of_beq h)
  | _ => exact Bool.noConfusion h
theorem optB_eq {d : D} {g : Option Bool} (h : optB d g = true) : d = g.elim .none .bool := by
  cases d with
  | none => cases g with
    | none => rfl
    | some n => exact Bool.noConfusion h
  | bool i => cases g with
    | none => exact Bool.noConfusion h
    | some n => exact congrArg D.bool (eq_of_beq h)
  | _ => exact Bool.noConfusion h
theorem strE_eq {s : List Nat} {d : D} (h : strE s d = true) : d = .str s := by
  cases d with
  | str t => exact congrArg D.str (eq_of_beq h)
  | _ => exact Bool.noConfusion h
theorem threeE_eq {f : D → D → D → Bool} {d : D} (h : tupE (threeE f) d = true) : ∃ a b c, d = .tup [a, b, c] ∧ f a b c = true := by
  cases d with
  | tup l => cases l with
    | nil => exact Bool.noConfusion h
    | cons a l => cases l with
      | nil => exact Bool.noConfusion h
      | cons b l => cases l with
        | nil => exact Bool.noConfusion h
        | cons c l => cases l with
          | nil => exact ⟨a, b, c, rfl, h⟩
          | cons => exact Bool.noConfusion h
  | _ => exact Bool.noConfusion h
theorem encQ_eq {d : D} {it : Itm} (h : encQ d it = true) : d = enc it := by
  cases it with
  | star => exact strE_eq h
  | set g e x =>
    obtain ⟨a, b, c, rfl, h⟩ := threeE_eq h
    obtain ⟨h1, h⟩ := and_i h
    obtain ⟨h2, h3⟩ := and_i h
    rw [optI_eq h1, optB_eq h2, optB_eq h3]; rfl
theorem encL_eq : ∀ {ds : List D} {its : List Itm}, encL ds its = true → ds = its.map enc
  | [], its, h => by
    cases its with
    | nil => rfl
    | cons => exact Bool.noConfusion h
  | d :: ds, its, h => by
    cases its with
    | nil => exact Bool.noConfusion h
    | cons it its => rw [encQ_eq (and_i h).1, encL_eq (and_i h).2]; rfl
noncomputable def lstE (f : List D → Bool) : Option D → Bool
  | some (.list l) => f l
  | _ => false
theorem lstE_eq {f : List D → Bool} {o : Option D} (h : lstE f o = true) : ∃ l, o = some (.list l) ∧ f l = true := by
  cases o with
  | none => exact Bool.noConfusion h
  | some d => cases d with
    | list l => exact ⟨l, rfl, h⟩
    | _ => exact Bool.noConfusion h
noncomputable def chkN (n : Nat) : Bool := lstE (fun l => encL l (askedI n)) (runFn (Φs 2) fuel 1 code_law_asked [.int (n : Int)])
theorem chkN_1 : ((List.range 1024).all chkN) = true := by decide +kernel
theorem chkN_2 : ((List.range 1024).all fun n => chkN (n + 1024)) = true := by decide +kernel
theorem chkN_3 : ((List.range 1024).all fun n => chkN (n + 2048)) = true := by decide +kernel
theorem asked_ok {n : Nat} (h : n < 3072) : Φs 3 "_law_asked" [.int (n : Int)] = some (.list ((askedI n).map enc)) := by
  have e : chkN n = true := by
    by_cases h1 : n < 1024
    · exact List.all_eq_true.mp chkN_1 n (by simpa using h1)
    · by_cases h2 : n < 2048
      · have := List.all_eq_true.mp chkN_2 (n - 1024) (by simp; omega)
        rwa [Nat.sub_add_cancel (by omega)] at this
      · have := List.all_eq_true.mp chkN_3 (n - 2048) (by simp; omega)
        rwa [Nat.sub_add_cancel (by omega)] at this
  rw [phi_asked]
  obtain ⟨l, hl, e⟩ := lstE_eq e
  rw [hl, encL_eq e]

noncomputable def octOf (g : Nat) (e : Bool) : Nat := if e then g else g + 64
noncomputable def pairT (o : Nat) : List Nat := if o = 93 then [o, o + 128] else [o + 128, o]
noncomputable def wr : Itm → List Nat
  | .star => [42]
  | .set (some g) (some e) b => (if b then [91, 33] else [91]) ++ pairT (octOf g e) ++ [93]
  | .set (some _) none _ => []
  | .set none none _ => [63]
  | .set none (some true) _ => [91, 0, 45, 63, 128, 45, 191, 93]
  | .set none (some false) _ => [91, 64, 45, 127, 192, 45, 255, 93]
noncomputable def okI : Itm → Bool
  | .star => true
  | .set (some g) (some _) _ => decide (g < 64)
  | .set (some _) none _ => false
  | .set none _ b => !b

noncomputable def chkR (it : Itm) : Bool := match runFn (Φs 2) fuel 1 code_law_written [enc it] with
  | some (.str l) => l == wr it
  | _ => false
theorem chkR_1 : (chkR .star && (chkR (.set none none false) && (chkR (.set none (some false) false) && chkR (.set none (some true) false)))) = true := by decide +kernel
theorem chkR_2 : ((List.range 64).all fun g => (chkR (.set (some g) (some false) false) && chkR (.set (some g) (some false) true)) && (chkR (.set (some g) (some true) false) && chkR (.set (some g) (some true) true))) = true := by decide +kernel
theorem written_ok (it : Itm) (ok : okI it = true) : Φs 3 "_law_written" [enc it] = some (.str (wr it)) := by
  have e : chkR it = true := by
    have h1 := chkR_1
    simp only [Bool.and_eq_true] at h1
    obtain ⟨a1, a2, a3, a4⟩ := h1
    rcases it with _ | ⟨_ | g, _ | e, b⟩
    · exact a1
    · cases b
      · exact a2
      · cases ok
    · cases b
      · cases e
        · exact a3
        · exact a4
      · cases ok
    · cases ok
    · have h2 := List.all_eq_true.mp chkR_2 g (by simpa using of_decide_eq_true ok)
      simp only [Bool.and_eq_true] at h2
      cases e <;> cases b
      · exact h2.1.1
      · exact h2.1.2
      · exact h2.2.1
      · exact h2.2.2
  rw [phi_written]
  unfold chkR at e
  split at e
  · rename_i l hl
    rw [hl, eq_of_beq e]
  · cases e
end Mine
end

/-! U3 -/
section
open PySem PySem.W PyProof.Rows
set_option maxRecDepth 100000
set_option linter.unusedSimpArgs false
namespace Mine

noncomputable def cFin : List S := [.spec (subF 9),
  .set 5 (.bin .Add (.var 8) (.int (1))),
  .ife (.not (.var 9)) [.add 4 (.str [40, 63, 33, 41])] [.ife (.cmp .Eq (.var 9) (.str [33])) [.add 4 (.str [46])] [.ife (.cmp .Eq (.idx (.var 9) (.int (0))) (.str [33])) [.set 9 (.bin .Add (.str [94]) (.slc (.var 9) (.int (1)) .none))] [.ife (.cmp .In (.idx (.var 9) (.int (0))) (.tup2 (.str [94]) (.str [91]))) [.set 9 (.bin .Add (.str [92]) (.var 9))] []],
  .add 4 (.cat3 (.str [91]) (.var 9) (.str [93]))]]]
noncomputable def cChunk : List S := [.own0 10,
  .set 11 (.ite (.cmp .Eq (.idx (.var 0) (.var 5)) (.str [33])) (.bin .Add (.var 5) (.int (2))) (.bin .Add (.var 5) (.int (1)))),
  .whl (.bool true) [.set 11 (.find (.var 0) 45 (.var 11) (.var 8)),
  .ife (.cmp .Lt (.var 11) (.int (0))) [.brk] [],
  .app 10 (.slc (.var 0) (.var 5) (.var 11)),
  .set 5 (.bin .Add (.var 11) (.int (1))),
  .set 11 (.bin .Add (.var 11) (.int (3)))],
  .set 12 (.slc (.var 0) (.var 5) (.var 8)),
  .ife (.var 12) [.app 10 (.var 12)] [.spec (lastF 10 [45])],
  .spec (downF no 11 (.bin .Sub (.len (.var 10)) (.int 1)) [.ife (.cmp .Gt (.idx (.idx (.var 10) (.bin .Sub (.var 11) (.int 1))) (.int (-1))) (.idx (.idx (.var 10) (.var 11)) (.int 0))) [.bot] []] 100),
  .spec (genF 9 10)]
noncomputable def cScan : S := .whl (.and (.cmp .Lt (.var 8) (.var 6)) (.cmp .NotEq (.idx (.var 0) (.var 8)) (.str [93]))) [.set 8 (.bin .Add (.var 8) (.int (1)))]
noncomputable def cBrk : List S := [.set 8 (.var 5),
  .ife (.and (.cmp .Lt (.var 8) (.var 6)) (.cmp .Eq (.idx (.var 0) (.var 8)) (.str [33]))) [.set 8 (.bin .Add (.var 8) (.int (1)))] [],
  .ife (.and (.cmp .Lt (.var 8) (.var 6)) (.cmp .Eq (.idx (.var 0) (.var 8)) (.str [93]))) [.set 8 (.bin .Add (.var 8) (.int (1)))] [],
  cScan,
  .ife (.cmp .GtE (.var 8) (.var 6)) [.add 4 (.str [92, 91])] (.set 9 (.slc (.var 0) (.var 5) (.var 8)) ::
  .ife (.cmp .NotIn (.str [45]) (.var 9)) [.set 9 (.repl (.var 9) [92] [92, 92])] cChunk :: cFin)]
noncomputable def cBody : List S := [.set 7 (.idx (.var 0) (.var 5)),
  .set 5 (.bin .Add (.var 5) (.int (1))),
  .ife (.cmp .Eq (.var 7) (.str [42])) [.ife (.or (.not (.var 3)) (.cmp .IsNot (.idx (.var 3) (.int (-1))) (.var 1))) [.add 4 (.var 1)] []] [.ife (.cmp .Eq (.var 7) (.str [63])) [.add 4 (.var 2)] [.ife (.cmp .Eq (.var 7) (.str [91])) cBrk [.add 4 (.call1 "escape" (.var 7))]]]]
theorem code_translate_eq : code_translate = [.own0 3, .bnd 4 3, .swp 5 6 (.int (0)) (.len (.var 0)), .whl (.cmp .Lt (.var 5) (.var 6)) cBody, .asr (.cmp .Eq (.var 5) (.var 6)), .frz 3, .ret (.var 3)] := rfl

/-- the state between two turns -/
noncomputable def stT (text : List Nat) (a : Addr) (res : List D) (i n : Nat) (r : List SV) : List SV := .val (.str text) :: .val (.obj a) :: .val (.str [46]) :: .own res :: .bound 3 :: .val (.int (i : Int)) :: .val (.int (n : Int)) :: r

theorem last_idx {l : List D} {d : D} (h : l.getLast? = some d) : idxD (.list l) (.int (-1)) = some d := by
  show ixL l (-1) = _
  unfold ixL
  rw [if_neg (fun h => absurd h.1 (by decide)), if_pos rfl, h]
theorem last_str {l : List Nat} {c : Nat} (h : l.getLast? = some c) : idxD (.str l) (.int (-1)) = some (.str [c]) := by
  show ixS l (-1) = _
  unfold ixS
  rw [if_neg (fun h => absurd h.1 (by decide)), if_pos rfl, h]; rfl

theorem turn_star0 {text : List Nat} {a : Addr} {i n : Nat} {g7 g8 g9 g10 g11 g12 : Gb} (N : Nat) (hi : text[i]? = some 42) (hb : i < 4611686018427387904) :
    run no (N + 10) cBody (mk (stT text a [] i n [g7.s, g8.s, g9.s, g10.s, g11.s, g12.s])) = some (mk (stT text a [.obj a] (i + 1) n [.val (.str [42]), g8.s, g9.s, g10.s, g11.s, g12.s]), .nxt) := by
  unfold cBody stT
  simp only [rE, List.isEmpty_nil, List.isEmpty_cons, Nat.reduceEqDiff, Nat.zero_le, beq_self_eq_true, Nat.reduceAdd, List.length_cons, List.length_nil, List.getElem?_cons_zero, List.getElem?_cons_succ, Option.getD_some, ↓reduceIte, and_self, true_and, and_true, ne_eq, not_false_eq_true, Nat.reduceLT, Nat.reduceLeDiff, decide_true, decide_false, Bool.or_false, Bool.false_or, Bool.not_true, Bool.not_false, rR, putL, List.map_cons, List.map_nil, List.set_cons_zero, List.set_cons_succ, idx_str' hi hb, List.nil_append]

theorem turn_star1 {text : List Nat} {a : Addr} {res : List D} {i n : Nat} {g7 g8 g9 g10 g11 g12 : Gb} (N : Nat) (hi : text[i]? = some 42) (hb : i < 4611686018427387904) {s : List Nat} (hr : res.getLast? = some (.str s)) (hl : res.length ≤ 16777216) :
    run no (N + 10) cBody (mk (stT text a res i n [g7.s, g8.s, g9.s, g10.s, g11.s, g12.s])) = some (mk (stT text a (res ++ [.obj a]) (i + 1) n [.val (.str [42]), g8.s, g9.s, g10.s, g11.s, g12.s]), .nxt) := by
  have he : res.isEmpty = false := by cases res <;> simp_all
  unfold cBody stT
  simp only [rE, List.isEmpty_nil, List.isEmpty_cons, Nat.reduceEqDiff, Nat.zero_le, beq_self_eq_true, Nat.reduceAdd, List.length_cons, List.length_nil, List.getElem?_cons_zero, List.getElem?_cons_succ, Option.getD_some, ↓reduceIte, and_self, true_and, and_true, ne_eq, not_false_eq_true, Nat.reduceLT, Nat.reduceLeDiff, decide_true, decide_false, Bool.or_false, Bool.false_or, Bool.not_true, Bool.not_false, rR, putL, List.map_cons, List.map_nil, List.set_cons_zero, List.set_cons_succ, idx_str' hi hb, he, hl, last_idx hr]

theorem turn_star2 {text : List Nat} {a : Addr} {res : List D} {i n : Nat} {g7 g8 g9 g10 g11 g12 : Gb} (N : Nat) (hi : text[i]? = some 42) (hb : i < 4611686018427387904) (hr : res.getLast? = some (.obj a)) (hl : res.length ≤ 16777216) :
    run no (N + 10) cBody (mk (stT text a res i n [g7.s, g8.s, g9.s, g10.s, g11.s, g12.s])) = some (mk (stT text a res (i + 1) n [.val (.str [42]), g8.s, g9.s, g10.s, g11.s, g12.s]), .nxt) := by
  have he : res.isEmpty = false := by cases res <;> simp_all
  unfold cBody stT
  simp only [rE, List.isEmpty_nil, List.isEmpty_cons, Nat.reduceEqDiff, Nat.zero_le, beq_self_eq_true, Nat.reduceAdd, List.length_cons, List.length_nil, List.getElem?_cons_zero, List.getElem?_cons_succ, Option.getD_some, ↓reduceIte, and_self, true_and, and_true, ne_eq, not_false_eq_true, Nat.reduceLT, Nat.reduceLeDiff, decide_true, decide_false, Bool.or_false, Bool.false_or, Bool.not_true, Bool.not_false, rR, putL, List.map_cons, List.map_nil, List.set_cons_zero, List.set_cons_succ, idx_str' hi hb, he, hl, last_idx hr]

theorem turn_any {text : List Nat} {a : Addr} {res : List D} {i n : Nat} {g7 g8 g9 g10 g11 g12 : Gb} (N : Nat) (hi : text[i]? = some 63) (hb : i < 4611686018427387904) (hl : res.length ≤ 16777216) :
    run no (N + 10) cBody (mk (stT text a res i n [g7.s, g8.s, g9.s, g10.s, g11.s, g12.s])) = some (mk (stT text a (res ++ [.str [46]]) (i + 1) n [.val (.str [63]), g8.s, g9.s, g10.s, g11.s, g12.s]), .nxt) := by
  unfold cBody stT
  have e1 : (([63] : List Nat) == [42]) = false := by decide
  simp only [rE, List.isEmpty_nil, List.isEmpty_cons, Nat.reduceEqDiff, Nat.zero_le, beq_self_eq_true, Nat.reduceAdd, List.length_cons, List.length_nil, List.getElem?_cons_zero, List.getElem?_cons_succ, Option.getD_some, ↓reduceIte, and_self, true_and, and_true, ne_eq, not_false_eq_true, Nat.reduceLT, Nat.reduceLeDiff, decide_true, decide_false, Bool.or_false, Bool.false_or, Bool.not_true, Bool.not_false, rR, putL, List.map_cons, List.map_nil, List.set_cons_zero, List.set_cons_succ, idx_str' hi hb, hl, e1]

/-- the scan for the closing bracket -/
theorem scan_ok {text : List Nat} {a : Addr} {res : List D} {i n : Nat} {g7 g9 g10 g11 g12 : Gb} (N : Nat) (suf : List Nat) : ∀ (rest : List Nat) (j k : Nat), 93 ∉ rest → text.drop j = rest ++ 93 :: suf → n = text.length → n ≤ 16777216 → rest.length < k →
    loopW (evm no .test (.and (.cmp .Lt (.var 8) (.var 6)) (.cmp .NotEq (.idx (.var 0) (.var 8)) (.str [93])))) (run no (N + 3) [.set 8 (.bin .Add (.var 8) (.int (1)))]) k (mk (stT text a res i n [g7.s, .val (.int (j : Int)), g9.s, g10.s, g11.s, g12.s])) = some (mk (stT text a res i n [g7.s, .val (.int ((j + rest.length : Nat) : Int)), g9.s, g10.s, g11.s, g12.s]), .nxt)
  | [], j, k, hno, hd, hn, hb, hk => by
    obtain ⟨k, rfl⟩ : ∃ m, k = m + 1 := ⟨k - 1, by simp at hk; omega⟩
    have h1 := drop_lt hd
    refine loopW_end ?_
    unfold stT
    simp only [rE, List.isEmpty_nil, List.isEmpty_cons, Nat.reduceEqDiff, Nat.zero_le, beq_self_eq_true, Nat.reduceAdd, List.length_cons, List.length_nil, List.getElem?_cons_zero, List.getElem?_cons_succ, Option.getD_some, ↓reduceIte, and_self, true_and, and_true, ne_eq, not_false_eq_true, Nat.reduceLT, Nat.reduceLeDiff, decide_true, decide_false, Bool.or_false, Bool.false_or, Bool.not_true, Bool.not_false, idx_str' (drop_get hd) (by omega), hn, h1, bne_self_eq_false]
  | c :: r, j, k, hno, hd, hn, hb, hk => by
    obtain ⟨k, rfl⟩ : ∃ m, k = m + 1 := ⟨k - 1, by simp at hk; omega⟩
    have h1 := drop_lt hd
    have hc : ¬ c = 93 := fun e => hno (by simp [e])
    have e1 : (([c] : List Nat) != [93]) = true := by simp [hc]
    refine (loopW_nxt (σ' := mk (stT text a res i n [g7.s, .val (.int ((j + 1 : Nat) : Int)), g9.s, g10.s, g11.s, g12.s])) ?_ ?_).trans ?_
    · unfold stT
      simp only [rE, List.isEmpty_nil, List.isEmpty_cons, Nat.reduceEqDiff, Nat.zero_le, beq_self_eq_true, Nat.reduceAdd, List.length_cons, List.length_nil, List.getElem?_cons_zero, List.getElem?_cons_succ, Option.getD_some, ↓reduceIte, and_self, true_and, and_true, ne_eq, not_false_eq_true, Nat.reduceLT, Nat.reduceLeDiff, decide_true, decide_false, Bool.or_false, Bool.false_or, Bool.not_true, Bool.not_false, idx_str' (drop_get hd) (by omega), hn, h1, e1]
    · unfold stT
      simp only [rE, List.isEmpty_nil, List.isEmpty_cons, Nat.reduceEqDiff, Nat.zero_le, beq_self_eq_true, Nat.reduceAdd, List.length_cons, List.length_nil, List.getElem?_cons_zero, List.getElem?_cons_succ, Option.getD_some, ↓reduceIte, and_self, true_and, and_true, ne_eq, not_false_eq_true, Nat.reduceLT, Nat.reduceLeDiff, decide_true, decide_false, Bool.or_false, Bool.false_or, Bool.not_true, Bool.not_false, rR, putL, List.map_cons, List.map_nil, List.set_cons_zero, List.set_cons_succ]
    · rw [scan_ok N suf r (j + 1) k (fun h => hno (by simp [h])) (drop_tail hd) hn hb (by simp at hk; omega), List.length_cons, Nat.add_assoc, Nat.add_comm 1]
end Mine
end

/-! U4 -/
section
open PySem PySem.W PyProof.Rows
set_option maxRecDepth 100000
set_option linter.unusedSimpArgs false
namespace Mine

noncomputable def cAfter : List S := .set 9 (.slc (.var 0) (.var 5) (.var 8)) :: .ife (.cmp .NotIn (.str [45]) (.var 9)) [.set 9 (.repl (.var 9) [92] [92, 92])] cChunk :: cFin
theorem cBrk_eq : cBrk = [.set 8 (.var 5),
  .ife (.and (.cmp .Lt (.var 8) (.var 6)) (.cmp .Eq (.idx (.var 0) (.var 8)) (.str [33]))) [.set 8 (.bin .Add (.var 8) (.int (1)))] [],
  .ife (.and (.cmp .Lt (.var 8) (.var 6)) (.cmp .Eq (.idx (.var 0) (.var 8)) (.str [93]))) [.set 8 (.bin .Add (.var 8) (.int (1)))] [],
  cScan,
  .ife (.cmp .GtE (.var 8) (.var 6)) [.add 4 (.str [92, 91])] cAfter] := rfl

section
variable {text : List Nat} {a : Addr} {res : List D} {i n : Nat} {g7 g8 g9 g10 g11 g12 : Gb}

theorem one_ne {c d : Nat} (h : ¬ c = d) : (([c] : List Nat) == [d]) = false := by simp [h]

theorem turn_brk {σ' : Slots} (N : Nat) (hi : text[i]? = some 91) (hb : i < 4611686018427387904)
    (B : run no (N + 35) cBrk (mk (stT text a res (i + 1) n [.val (.str [91]), g8.s, g9.s, g10.s, g11.s, g12.s])) = some (σ', .nxt)) :
    run no (N + 40) cBody (mk (stT text a res i n [g7.s, g8.s, g9.s, g10.s, g11.s, g12.s])) = some (σ', .nxt) := by
  unfold cBody
  unfold stT at *
  simp only [rE, List.isEmpty_nil, List.isEmpty_cons, Nat.reduceEqDiff, Nat.zero_le, beq_self_eq_true, Nat.reduceAdd, List.length_cons, List.length_nil, List.getElem?_cons_zero, List.getElem?_cons_succ, Option.getD_some, ↓reduceIte, and_self, true_and, and_true, ne_eq, not_false_eq_true, Nat.reduceLT, Nat.reduceLeDiff, decide_true, decide_false, Bool.or_false, Bool.false_or, Bool.not_true, Bool.not_false, rR, putL, List.map_cons, List.map_nil, List.set_cons_zero, List.set_cons_succ, idx_str' hi hb, one_ne (show ¬ 91 = 42 by decide), one_ne (show ¬ 91 = 63 by decide), B]

theorem brk_P (N : Nat) {c : Nat} {r suf : List Nat} (hq : text.drop i = (c :: r) ++ 93 :: suf) (hn : n = text.length) (hb : n ≤ 16777216) (hc : ¬ c = 33) (hr : 93 ∉ c :: r) (hl : (c :: r).length < N) {σ' : Slots}
    (B : run no (N + 20) cAfter (mk (stT text a res i n [g7.s, .val (.int ((i + (c :: r).length : Nat) : Int)), g9.s, g10.s, g11.s, g12.s])) = some (σ', .nxt)) :
    run no (N + 25) cBrk (mk (stT text a res i n [g7.s, g8.s, g9.s, g10.s, g11.s, g12.s])) = some (σ', .nxt) := by
  rw [cBrk_eq]
  have hc' : ¬ c = 93 := fun e => hr (by simp [e])
  have hx : i < text.length := drop_lt hq
  have sc := scan_ok (a := a) (res := res) (i := i) (g7 := g7) (g9 := g9) (g10 := g10) (g11 := g11) (g12 := g12) (N + 18) suf (c :: r) (i) (N + 21) hr hq hn hb (by omega)
  rw [show N + 18 + 3 = N + 21 from rfl] at sc
  have hj : i + (c :: r).length < n := by rw [hn]; exact drop_lt (drop_app hq)
  have hle : ¬ n ≤ i + (c :: r).length := by omega
  have hi0 : i < n := by omega
  have hi1 : i < n := by omega
  generalize hL : (c :: r).length = L at *
  unfold stT at *
  unfold cScan
  simp only [rE, List.isEmpty_nil, List.isEmpty_cons, Nat.reduceEqDiff, Nat.zero_le, beq_self_eq_true, Nat.reduceAdd, List.length_cons, List.length_nil, List.getElem?_cons_zero, List.getElem?_cons_succ, Option.getD_some, ↓reduceIte, and_self, true_and, and_true, ne_eq, not_false_eq_true, Nat.reduceLT, Nat.reduceLeDiff, decide_true, decide_false, Bool.or_false, Bool.false_or, Bool.not_true, Bool.not_false, rR, putL, List.map_cons, List.map_nil, List.set_cons_zero, List.set_cons_succ, idx_str' (drop_get hq) (by omega), one_ne hc, one_ne hc', sc, hi0, hi1, hle, B]

theorem brk_Q (N : Nat) {r suf : List Nat} (hd : text.drop i = 93 :: r ++ 93 :: suf) (hn : n = text.length) (hb : n ≤ 16777216) (hr : 93 ∉ r) (hl : r.length < N) {σ' : Slots}
    (B : run no (N + 20) cAfter (mk (stT text a res i n [g7.s, .val (.int ((i + 1 + r.length : Nat) : Int)), g9.s, g10.s, g11.s, g12.s])) = some (σ', .nxt)) :
    run no (N + 25) cBrk (mk (stT text a res i n [g7.s, g8.s, g9.s, g10.s, g11.s, g12.s])) = some (σ', .nxt) := by
  rw [cBrk_eq]
  have hx : i < text.length := drop_lt hd
  have hq := drop_tail hd
  have sc := scan_ok (a := a) (res := res) (i := i) (g7 := g7) (g9 := g9) (g10 := g10) (g11 := g11) (g12 := g12) (N + 18) suf r (i + 1) (N + 21) hr hq hn hb (by omega)
  rw [show N + 18 + 3 = N + 21 from rfl] at sc
  have hj : i + 1 + r.length < n := by rw [hn]; exact drop_lt (drop_app hq)
  have hle : ¬ n ≤ i + 1 + r.length := by omega
  have hi0 : i < n := by omega
  have hi1 : i + 1 < n := by omega
  unfold stT at *
  unfold cScan
  simp only [rE, List.isEmpty_nil, List.isEmpty_cons, Nat.reduceEqDiff, Nat.zero_le, beq_self_eq_true, Nat.reduceAdd, List.length_cons, List.length_nil, List.getElem?_cons_zero, List.getElem?_cons_succ, Option.getD_some, ↓reduceIte, and_self, true_and, and_true, ne_eq, not_false_eq_true, Nat.reduceLT, Nat.reduceLeDiff, decide_true, decide_false, Bool.or_false, Bool.false_or, Bool.not_true, Bool.not_false, rR, putL, List.map_cons, List.map_nil, List.set_cons_zero, List.set_cons_succ, idx_str' (drop_get hd) (by omega), one_ne (show ¬ 93 = 33 by decide), sc, hi0, hi1, hle, B]

theorem brk_R (N : Nat) {c : Nat} {r suf : List Nat} (hd : text.drop i = 33 :: (c :: r) ++ 93 :: suf) (hn : n = text.length) (hb : n ≤ 16777216) (hr : 93 ∉ c :: r) (hl : (c :: r).length < N) {σ' : Slots}
    (B : run no (N + 20) cAfter (mk (stT text a res i n [g7.s, .val (.int ((i + 1 + (c :: r).length : Nat) : Int)), g9.s, g10.s, g11.s, g12.s])) = some (σ', .nxt)) :
    run no (N + 25) cBrk (mk (stT text a res i n [g7.s, g8.s, g9.s, g10.s, g11.s, g12.s])) = some (σ', .nxt) := by
  rw [cBrk_eq]
  have hx : i < text.length := drop_lt hd
  have hq := drop_tail hd
  have hc' : ¬ c = 93 := fun e => hr (by simp [e])
  have sc := scan_ok (a := a) (res := res) (i := i) (g7 := g7) (g9 := g9) (g10 := g10) (g11 := g11) (g12 := g12) (N + 18) suf (c :: r) (i + 1) (N + 21) hr hq hn hb (by omega)
  rw [show N + 18 + 3 = N + 21 from rfl] at sc
  have hj : i + 1 + (c :: r).length < n := by rw [hn]; exact drop_lt (drop_app hq)
  have hle : ¬ n ≤ i + 1 + (c :: r).length := by omega
  have hi0 : i < n := by omega
  have hi1 : i + 1 < n := by omega
  generalize hL : (c :: r).length = L at *
  unfold stT at *
  unfold cScan
  simp only [rE, List.isEmpty_nil, List.isEmpty_cons, Nat.reduceEqDiff, Nat.zero_le, beq_self_eq_true, Nat.reduceAdd, List.length_cons, List.length_nil, List.getElem?_cons_zero, List.getElem?_cons_succ, Option.getD_some, ↓reduceIte, and_self, true_and, and_true, ne_eq, not_false_eq_true, Nat.reduceLT, Nat.reduceLeDiff, decide_true, decide_false, Bool.or_false, Bool.false_or, Bool.not_true, Bool.not_false, rR, putL, List.map_cons, List.map_nil, List.set_cons_zero, List.set_cons_succ, idx_str' (drop_get hd) (by omega), idx_str' (drop_get hq) (by omega), one_ne hc', sc, hi0, hi1, hle, B]

theorem brk_S (N : Nat) {r suf : List Nat} (hd : text.drop i = 33 :: 93 :: r ++ 93 :: suf) (hn : n = text.length) (hb : n ≤ 16777216) (hr : 93 ∉ r) (hl : r.length < N) {σ' : Slots}
    (B : run no (N + 20) cAfter (mk (stT text a res i n [g7.s, .val (.int ((i + 1 + 1 + r.length : Nat) : Int)), g9.s, g10.s, g11.s, g12.s])) = some (σ', .nxt)) :
    run no (N + 25) cBrk (mk (stT text a res i n [g7.s, g8.s, g9.s, g10.s, g11.s, g12.s])) = some (σ', .nxt) := by
  rw [cBrk_eq]
  have hx : i < text.length := drop_lt hd
  have hd2 := drop_tail hd
  have hq := drop_tail hd2
  have hx2 : i + 1 < text.length := drop_lt hd2
  have hi2 : i + 1 < n := by omega
  have sc := scan_ok (a := a) (res := res) (i := i) (g7 := g7) (g9 := g9) (g10 := g10) (g11 := g11) (g12 := g12) (N + 18) suf r (i + 1 + 1) (N + 21) hr hq hn hb (by omega)
  rw [show N + 18 + 3 = N + 21 from rfl] at sc
  have hj : i + 1 + 1 + r.length < n := by rw [hn]; exact drop_lt (drop_app hq)
  have hle : ¬ n ≤ i + 1 + 1 + r.length := by omega
  have hi0 : i < n := by omega
  have hi1 : i + 1 + 1 < n := by omega
  unfold stT at *
  unfold cScan
  simp only [rE, List.isEmpty_nil, List.isEmpty_cons, Nat.reduceEqDiff, Nat.zero_le, beq_self_eq_true, Nat.reduceAdd, List.length_cons, List.length_nil, List.getElem?_cons_zero, List.getElem?_cons_succ, Option.getD_some, ↓reduceIte, and_self, true_and, and_true, ne_eq, not_false_eq_true, Nat.reduceLT, Nat.reduceLeDiff, decide_true, decide_false, Bool.or_false, Bool.false_or, Bool.not_true, Bool.not_false, rR, putL, List.map_cons, List.map_nil, List.set_cons_zero, List.set_cons_succ, idx_str' (drop_get hd) (by omega), idx_str' (drop_get hd2) (by omega), hi2, sc, hi0, hi1, hle, B]

end
end Mine
end

/-! U5 -/
section
open PySem PySem.W PyProof.Rows
set_option maxRecDepth 100000
set_option linter.unusedSimpArgs false
namespace Mine

noncomputable def subC (l : List Nat) : Option (List Nat) := if l.length ≤ 1000 then onO (fun r => if r.length ≤ 900 ∧ (r.map List.length).sum + r.length * 0 ≤ lim then some r.flatten else none) (subL l 20 0 0 false) else none
noncomputable def rpl (s : List Nat) : List Nat := (Txt.replace ⟨s.toArray⟩ ⟨[92].toArray⟩ ⟨[92, 92].toArray⟩).cps.toList
noncomputable def bodyT (o : Nat) : List Nat := if o = 93 then [93, 221] else if o = 45 then [173, 92, 45] else if o = 92 ∨ o = 38 ∨ o = 126 ∨ o = 124 then [o + 128, 92, o] else [o + 128, o]
noncomputable def bang (b : Bool) : List Nat := if b then [33] else []
noncomputable def chkA (b : Bool) (o : Nat) : Bool := o == 45 || (!(inStr [45] (bang b ++ pairT o)) && subC (rpl (bang b ++ pairT o)) == some (bang b ++ bodyT o))
theorem chkA_1 : ((List.range 64).all fun o => chkA false o) = true := by decide +kernel
theorem chkA_2 : ((List.range 64).all fun o => chkA true o) = true := by decide +kernel
theorem chkA_3 : ((List.range 64).all fun o => chkA false (o + 64)) = true := by decide +kernel
theorem chkA_4 : ((List.range 64).all fun o => chkA true (o + 64)) = true := by decide +kernel
theorem chkA_get {b : Bool} {o : Nat} (ho : o < 128) (h45 : o ≠ 45) : inStr [45] (bang b ++ pairT o) = false ∧ subC (rpl (bang b ++ pairT o)) = some (bang b ++ bodyT o) := by
  have h : chkA b o = true := by
    by_cases h : o < 64
    · cases b
      · exact List.all_eq_true.mp chkA_1 o (by simpa using h)
      · exact List.all_eq_true.mp chkA_2 o (by simpa using h)
    · have e : o - 64 + 64 = o := by omega
      rw [← e]
      cases b
      · exact List.all_eq_true.mp chkA_3 (o - 64) (by simp; omega)
      · exact List.all_eq_true.mp chkA_4 (o - 64) (by simp; omega)
  unfold chkA at h
  have h1 : (o == 45) = false := by simp [h45]
  rw [h1, Bool.false_or, Bool.and_eq_true] at h
  exact ⟨by simpa using h.1, by simpa using h.2⟩

theorem subF_mk {l : List SV} {x : Nat} {s t : List Nat} (h : (l[x]?).getD .un = .val (.str s)) (hs : subC s = some t) : subF x (mk l) = some (put (mk l) x (.val (.str t))) := by
  unfold subF
  rw [mk_at, h]
  exact if_k hs fun h1 hs => onO_k hs fun r h2 hs => if_k hs fun h3 hs => (if_pos h1).trans ((congrArg (onO _) h2).trans ((if_pos h3).trans (Option.some.inj hs ▸ rfl)))

section
variable {text : List Nat} {a : Addr} {res : List D} {i j n : Nat} {g7 g8 g9 g10 g11 g12 : Gb}

theorem repl_ok {s : List Nat} (h : s.length ≤ 1048576) : replD (.str s) [92] [92, 92] = some (.str (rpl s)) := by
  unfold replD
  simp only
  rw [if_pos ⟨h, by decide, by decide⟩]
  rfl

theorem fin_bar (N : Nat) {s r : List Nat} {c : Nat} (hs : subC s = some (33 :: c :: r)) (hl : res.length ≤ 16777216) (hr : r.length ≤ 1000000) :
    run no (N + 10) cFin (mk (stT text a res i n [g7.s, .val (.int (j : Int)), .val (.str s), g10.s, g11.s, g12.s])) = some (mk (stT text a (res ++ [.str (91 :: 94 :: c :: r ++ [93])]) (j + 1) n [g7.s, .val (.int (j : Int)), .val (.str (94 :: c :: r)), g10.s, g11.s, g12.s]), .nxt) := by
  unfold cFin stT
  rw [run_c, s_spec, subF_mk (s := s) rfl hs, kspec_s, seqR_n]
  have h1 : (33 :: c :: r == ([33] : List Nat)) = false := by simp
  have h2 : r.length + 1 + 1 ≤ 16777216 := by omega
  have h3 : r.length + 1 + 1 + 1 ≤ 16777216 := by omega
  have h4 : 0 + 1 + (r.length + 1) ≤ 16777216 := by omega
  have h5 : 0 + 1 + (r.length + 1 + 1) + (0 + 1) ≤ 16777216 := by omega
  simp only [rE, List.isEmpty_nil, List.isEmpty_cons, Nat.reduceEqDiff, Nat.zero_le, beq_self_eq_true, Nat.reduceAdd, List.length_cons, List.length_nil, List.getElem?_cons_zero, List.getElem?_cons_succ, Option.getD_some, ↓reduceIte, and_self, true_and, and_true, ne_eq, not_false_eq_true, Nat.reduceLT, Nat.reduceLeDiff, decide_true, decide_false, Bool.or_false, Bool.false_or, Bool.not_true, Bool.not_false, rR, putL, List.map_cons, List.map_nil, List.set_cons_zero, List.set_cons_succ, h1, h2, h3, h4, h5, hl, idx_str' (l := 33 :: c :: r) (i := 0) (c := 33) rfl (by decide), List.drop_succ_cons, List.drop_zero, List.cons_append, List.nil_append]

theorem fin_plain (N : Nat) {s r : List Nat} {c : Nat} (hs : subC s = some (c :: r)) (hc : ¬ c = 33) (hc1 : ¬ c = 94) (hc2 : ¬ c = 91) (hl : res.length ≤ 16777216) (hr : r.length ≤ 1000000) :
    run no (N + 10) cFin (mk (stT text a res i n [g7.s, .val (.int (j : Int)), .val (.str s), g10.s, g11.s, g12.s])) = some (mk (stT text a (res ++ [.str (91 :: c :: r ++ [93])]) (j + 1) n [g7.s, .val (.int (j : Int)), .val (.str (c :: r)), g10.s, g11.s, g12.s]), .nxt) := by
  unfold cFin stT
  rw [run_c, s_spec, subF_mk (s := s) rfl hs, kspec_s, seqR_n]
  have h1 : (c :: r == ([33] : List Nat)) = false := by simp [hc]
  have h2 : r.length + 1 ≤ 16777216 := by omega
  have h5 : 0 + 1 + (r.length + 1) + (0 + 1) ≤ 16777216 := by omega
  have h6 : anyS (.str [c]) [.str [94], .str [91]] = some false := by
    have e1 : (([94] : List Nat) == [c]) = false := by simp; exact fun e => hc1 e.symm
    have e2 : (([91] : List Nat) == [c]) = false := by simp; exact fun e => hc2 e.symm
    rw [any_cons (b := false) (by rw [← e1]; rfl), any_cons (b := false) (by rw [← e2]; rfl)]
    rfl
  simp only [rE, List.isEmpty_nil, List.isEmpty_cons, Nat.reduceEqDiff, Nat.zero_le, beq_self_eq_true, Nat.reduceAdd, List.length_cons, List.length_nil, List.getElem?_cons_zero, List.getElem?_cons_succ, Option.getD_some, ↓reduceIte, and_self, true_and, and_true, ne_eq, not_false_eq_true, Nat.reduceLT, Nat.reduceLeDiff, decide_true, decide_false, Bool.or_false, Bool.false_or, Bool.not_true, Bool.not_false, rR, putL, List.map_cons, List.map_nil, List.set_cons_zero, List.set_cons_succ, h1, h2, h5, h6, hl, one_ne hc, idx_str' (l := c :: r) (i := 0) (c := c) rfl (by decide), List.cons_append, List.nil_append]

/-- what stands in the bracket has no dash -/
theorem after_plain {σ' : Slots} (N : Nat) {s suf : List Nat} (hd : text.drop i = s ++ 93 :: suf) (hj : j = i + s.length) (hn : n = text.length) (hb : n ≤ 1000000) (h45 : inStr [45] s = false)
    (B : run no (N + 10) cFin (mk (stT text a res i n [g7.s, .val (.int (j : Int)), .val (.str (rpl s)), g10.s, g11.s, g12.s])) = some (σ', .nxt)) :
    run no (N + 12) cAfter (mk (stT text a res i n [g7.s, .val (.int (j : Int)), g9.s, g10.s, g11.s, g12.s])) = some (σ', .nxt) := by
  have hx : i + s.length < text.length := drop_lt (drop_app hd)
  have h1 : s.length ≤ 1048576 := by omega
  have h2 : text.length ≤ 16777216 := by omega
  have h3 := drop_cut hd
  rw [← hj] at h3
  unfold cAfter
  unfold stT at *
  simp only [rE, List.isEmpty_nil, List.isEmpty_cons, Nat.reduceEqDiff, Nat.zero_le, beq_self_eq_true, Nat.reduceAdd, List.length_cons, List.length_nil, List.getElem?_cons_zero, List.getElem?_cons_succ, Option.getD_some, ↓reduceIte, and_self, true_and, and_true, ne_eq, not_false_eq_true, Nat.reduceLT, Nat.reduceLeDiff, decide_true, decide_false, Bool.or_false, Bool.false_or, Bool.not_true, Bool.not_false, rR, putL, List.map_cons, List.map_nil, List.set_cons_zero, List.set_cons_succ, h2, h3, h45, repl_ok h1, B]
end
end Mine
end

/-! U6 -/
section
open PySem PySem.W PyProof.Rows
set_option maxRecDepth 100000
set_option linter.unusedSimpArgs false
namespace Mine

theorem find_ok {l : List Nat} {c k j m : Nat} (h : findAt c (l.drop k) k (j - k) = some m) (hj : j ≤ l.length) (hl : l.length ≤ 16777216) : findD (.str l) c (.int (k : Int)) (.int (j : Int)) = some (.int (m : Int)) := by
  unfold findD
  simp only
  rw [if_pos ⟨by simp, by simp, by omega, hl⟩]
  simp [h]
theorem find_no {l : List Nat} {c k j : Nat} (h : findAt c (l.drop k) k (j - k) = none) (hj : j ≤ l.length) (hl : l.length ≤ 16777216) : findD (.str l) c (.int (k : Int)) (.int (j : Int)) = some (.int (-1)) := by
  unfold findD
  simp only
  rw [if_pos ⟨by simp, by simp, by omega, hl⟩]
  simp [h]
theorem findAt_0 {c k : Nat} {l : List Nat} : findAt c l k 0 = none := by cases l <;> rfl
theorem findAt_hit {c k m : Nat} {l : List Nat} : findAt c (c :: l) k (m + 1) = some k := by simp [findAt]
theorem findAt_miss {c d k m : Nat} {l : List Nat} (h : ¬ d = c) : findAt c (d :: l) k (m + 1) = findAt c l (k + 1) m := by simp [findAt, h]
theorem neg_lt {b : Nat} : cmpD .Lt (.int (-1)) (.int (b : Int)) = some (.bool true) := by
  rw [lt_int']
  have : decide ((-1 : Int) < (b : Int)) = true := decide_eq_true (by omega)
  rw [this]

noncomputable def cTurn : List S := [.set 11 (.find (.var 0) 45 (.var 11) (.var 8)),
  .ife (.cmp .Lt (.var 11) (.int (0))) [.brk] [],
  .app 10 (.slc (.var 0) (.var 5) (.var 11)),
  .set 5 (.bin .Add (.var 11) (.int (1))),
  .set 11 (.bin .Add (.var 11) (.int (3)))]
noncomputable def cLoop : S := .whl (.bool true) cTurn
noncomputable def cEnd : List S := [.set 12 (.slc (.var 0) (.var 5) (.var 8)),
  .ife (.var 12) [.app 10 (.var 12)] [.spec (lastF 10 [45])],
  .spec (downF no 11 (.bin .Sub (.len (.var 10)) (.int 1)) [.ife (.cmp .Gt (.idx (.idx (.var 10) (.bin .Sub (.var 11) (.int 1))) (.int (-1))) (.idx (.idx (.var 10) (.var 11)) (.int 0))) [.bot] []] 100),
  .spec (genF 9 10)]
theorem cChunk_eq : cChunk = .own0 10 :: .set 11 (.ite (.cmp .Eq (.idx (.var 0) (.var 5)) (.str [33])) (.bin .Add (.var 5) (.int (2))) (.bin .Add (.var 5) (.int (1)))) :: cLoop :: cEnd := rfl

/-- the state in the chunks' loop -/
noncomputable def stC (text : List Nat) (a : Addr) (res : List D) (i n : Nat) (g7 : Gb) (j : Nat) (s : List Nat) (ch : List D) (k : Int) (g12 : Gb) : List SV := stT text a res i n [g7.s, .val (.int (j : Int)), .val (.str s), .own ch, .val (.int k), g12.s]

section
variable {text : List Nat} {a : Addr} {res : List D} {i j n : Nat} {g7 g8 g9 g10 g11 g12 : Gb} {s : List Nat} {ch : List D} {k m : Nat}

theorem chunk_turn (N : Nat) (hf : findD (.str text) 45 (.int (k : Int)) (.int (j : Int)) = some (.int (m : Int))) (ht : text.length ≤ 16777216) (hc : ch.length ≤ 16777216) :
    run no (N + 10) cTurn (mk (stC text a res i n g7 j s ch k g12)) = some (mk (stC text a res (m + 1) n g7 j s (ch ++ [.str ((text.take m).drop i)]) ((m + 3 : Nat) : Int) g12), .nxt) := by
  have hm : ¬ m < 0 := by omega
  unfold cTurn stC stT
  simp only [rE, List.isEmpty_nil, List.isEmpty_cons, Nat.reduceEqDiff, Nat.zero_le, beq_self_eq_true, Nat.reduceAdd, List.length_cons, List.length_nil, List.getElem?_cons_zero, List.getElem?_cons_succ, Option.getD_some, ↓reduceIte, and_self, true_and, and_true, ne_eq, not_false_eq_true, Nat.reduceLT, Nat.reduceLeDiff, decide_true, decide_false, Bool.or_false, Bool.false_or, Bool.not_true, Bool.not_false, rR, putL, List.map_cons, List.map_nil, List.set_cons_zero, List.set_cons_succ, hf, ht, hc, hm]
theorem chunk_stop (N : Nat) (hf : findD (.str text) 45 (.int (k : Int)) (.int (j : Int)) = some (.int (-1))) :
    run no (N + 10) cTurn (mk (stC text a res i n g7 j s ch k g12)) = some (mk (stC text a res i n g7 j s ch (-1) g12), .brk) := by
  unfold cTurn stC stT
  simp only [rE, List.isEmpty_nil, List.isEmpty_cons, Nat.reduceEqDiff, Nat.zero_le, beq_self_eq_true, Nat.reduceAdd, List.length_cons, List.length_nil, List.getElem?_cons_zero, List.getElem?_cons_succ, Option.getD_some, ↓reduceIte, and_self, true_and, and_true, ne_eq, not_false_eq_true, Nat.reduceLT, Nat.reduceLeDiff, decide_true, decide_false, Bool.or_false, Bool.false_or, Bool.not_true, Bool.not_false, rR, putL, List.map_cons, List.map_nil, List.set_cons_zero, List.set_cons_succ, hf, neg_lt]

theorem loop_turn {σ' : Slots} (N M : Nat) (hf : findD (.str text) 45 (.int (k : Int)) (.int (j : Int)) = some (.int (m : Int))) (ht : text.length ≤ 16777216) (hc : ch.length ≤ 16777216)
    (h : loopW (evm no .test (.bool true)) (run no (N + 10) cTurn) M (mk (stC text a res (m + 1) n g7 j s (ch ++ [.str ((text.take m).drop i)]) ((m + 3 : Nat) : Int) g12)) = some (σ', .nxt)) :
    loopW (evm no .test (.bool true)) (run no (N + 10) cTurn) (M + 1) (mk (stC text a res i n g7 j s ch k g12)) = some (σ', .nxt) :=
  (loopW_nxt (by rw [e_boolT]) (chunk_turn N hf ht hc)).trans h
theorem loop_stop (N M : Nat) (hf : findD (.str text) 45 (.int (k : Int)) (.int (j : Int)) = some (.int (-1))) :
    loopW (evm no .test (.bool true)) (run no (N + 10) cTurn) (M + 1) (mk (stC text a res i n g7 j s ch k g12)) = some (mk (stC text a res i n g7 j s ch (-1) g12), .nxt) :=
  loopW_brk (by rw [e_boolT]) (chunk_stop N hf)

theorem lastF_mk {l : List SV} {x : Nat} {m t : List Nat} {ch : List D} (h : (l[x]?).getD .un = .own ch) (h2 : ch.getLast? = some (.str t)) (h3 : t.length + m.length ≤ 16777216) (h4 : ch.length ≤ 16777216) :
    lastF x m (mk l) = some (upd (mk l) x (.own (ch.set (ch.length - 1) (.str (t ++ m))))) := by
  unfold lastF
  rw [mk_at, h]
  exact (congrArg (fun o : Option D => svS (fun t => if t.length + m.length ≤ lim ∧ ch.length ≤ lim then some (upd (mk l) x (.own (ch.set (ch.length - 1) (.str (t ++ m))))) else none) ((o.map SV.val).getD .un)) h2).trans (if_pos ⟨h3, h4⟩)
theorem genF_mk {l : List SV} {xs xc : Nat} {ch : List D} {ls : List (List Nat)} {t : List Nat} (h : (l[xc]?).getD .un = .own ch) (h1 : allStr ch = some ls) (h2 : genOk ls = true) (h3 : (Txt.join hyp (genOut ls)).cps.toList = t) :
    genF xs xc (mk l) = some (put (mk l) xs (.val (.str t))) := by
  unfold genF
  rw [mk_at, h]
  exact (congrArg (onO _) h1).trans ((if_pos h2).trans (h3 ▸ rfl))
theorem downF_s {Φ : Str → List D → Option D} {x : Nat} {ci : E} {cb : List S} {fuel k : Nat} {σ σ' : Slots} (h : evm Φ .strict ci σ = some (.int (k : Int))) (hk : k ≤ 1000) (h2 : loopL (run Φ fuel cb) x (rangeN (k : Int) k (-1)) σ = some (σ', .nxt)) : downF Φ x ci cb fuel σ = some σ' := by
  exact (congrArg (sI _) h).trans ((if_pos ⟨Int.natCast_nonneg k, Int.ofNat_le.mpr hk⟩).trans (congrArg nxtO h2))

theorem end_A (N : Nat) {x t : List Nat} {kk : Int} (hp : (text.take j).drop i = []) (ht : text.length ≤ 16777216) (hx : x.length ≤ 1000) (hg : genOk [x ++ [45]] = true) (hg2 : (Txt.join hyp (genOut [x ++ [45]])).cps.toList = t) :
    run no (N + 10) cEnd (mk (stC text a res i n g7 j s [.str x] kk g12)) = some (mk (stT text a res i n [g7.s, .val (.int (j : Int)), .val (.str t), .own [.str (x ++ [45])], .val (.int kk), .val (.str [])]), .nxt) := by
  unfold cEnd stC stT
  have hl : x.length + (0 + 1) ≤ 16777216 := by omega
  rw [run_c]
  simp only [rE, List.isEmpty_nil, List.isEmpty_cons, Nat.reduceEqDiff, Nat.zero_le, beq_self_eq_true, Nat.reduceAdd, List.length_cons, List.length_nil, List.getElem?_cons_zero, List.getElem?_cons_succ, Option.getD_some, ↓reduceIte, and_self, true_and, and_true, ne_eq, not_false_eq_true, Nat.reduceLT, Nat.reduceLeDiff, decide_true, decide_false, Bool.or_false, Bool.false_or, Bool.not_true, Bool.not_false, s_set, kset_s, seqR_n, put_mk, putL, kill_un, kill_val, kill_own, kill_ptr, kill_bound, kill_gb, List.map_cons, List.map_nil, List.set_cons_zero, List.set_cons_succ, Nat.reduceLT, ht, hp]
  rw [run_c]
  have e1 : lastF 10 [45] (mk (.val (.str text) :: .val (.obj a) :: .val (.str [46]) :: .own res :: .bound 3 :: .val (.int (i : Int)) :: .val (.int (n : Int)) :: [g7.s, .val (.int (j : Int)), .val (.str s), .own [.str x], .val (.int kk), .val (.str [])])) = _ := lastF_mk (t := x) rfl rfl hl (by simp)
  simp only [rE, List.isEmpty_nil, List.isEmpty_cons, Nat.reduceEqDiff, Nat.zero_le, beq_self_eq_true, Nat.reduceAdd, List.length_cons, List.length_nil, List.getElem?_cons_zero, List.getElem?_cons_succ, Option.getD_some, ↓reduceIte, and_self, true_and, and_true, ne_eq, not_false_eq_true, Nat.reduceLT, Nat.reduceLeDiff, decide_true, decide_false, Bool.or_false, Bool.false_or, Bool.not_true, Bool.not_false, rR, putL, List.map_cons, List.map_nil, List.set_cons_zero, List.set_cons_succ, e1, List.length_singleton, Nat.sub_self]
  rw [downF_s (k := 0) (σ' := _) ?_ (by decide) loopL_nil, kspec_s, seqR_n, run_c, s_spec, genF_mk (ch := [.str (x ++ [45])]) rfl rfl hg hg2]
  · simp only [rE, List.isEmpty_nil, List.isEmpty_cons, Nat.reduceEqDiff, Nat.zero_le, beq_self_eq_true, Nat.reduceAdd, List.length_cons, List.length_nil, List.getElem?_cons_zero, List.getElem?_cons_succ, Option.getD_some, ↓reduceIte, and_self, true_and, and_true, ne_eq, not_false_eq_true, Nat.reduceLT, Nat.reduceLeDiff, decide_true, decide_false, Bool.or_false, Bool.false_or, Bool.not_true, Bool.not_false, rR, putL, List.map_cons, List.map_nil, List.set_cons_zero, List.set_cons_succ]
  · simp only [rE, List.isEmpty_nil, List.isEmpty_cons, Nat.reduceEqDiff, Nat.zero_le, beq_self_eq_true, Nat.reduceAdd, List.length_cons, List.length_nil, List.getElem?_cons_zero, List.getElem?_cons_succ, Option.getD_some, ↓reduceIte, and_self, true_and, and_true, ne_eq, not_false_eq_true, Nat.reduceLT, Nat.reduceLeDiff, decide_true, decide_false, Bool.or_false, Bool.false_or, Bool.not_true, Bool.not_false, Nat.sub_self, Nat.le_refl]

theorem end_B (N : Nat) {c0 c1 c2 c3 : Nat} {t : List Nat} {kk : Int} (hp : (text.take j).drop i = [c3]) (ht : text.length ≤ 16777216) (h1 : ltL [c3] [c2] = false) (h2 : ltL [c1] [c0] = false) (hg : genOk [[c0], [c1, c2], [c3]] = true) (hg2 : (Txt.join hyp (genOut [[c0], [c1, c2], [c3]])).cps.toList = t) :
    run no (N + 10) cEnd (mk (stC text a res i n g7 j s [.str [c0], .str [c1, c2]] kk g12)) = some (mk (stT text a res i n [g7.s, .val (.int (j : Int)), .val (.str t), .own [.str [c0], .str [c1, c2], .str [c3]], .val (.int ((1 : Nat) : Int)), .val (.str [c3])]), .nxt) := by
  unfold cEnd stC stT
  rw [run_c]
  simp only [rE, List.isEmpty_nil, List.isEmpty_cons, Nat.reduceEqDiff, Nat.zero_le, beq_self_eq_true, Nat.reduceAdd, List.length_cons, List.length_nil, List.getElem?_cons_zero, List.getElem?_cons_succ, Option.getD_some, ↓reduceIte, and_self, true_and, and_true, ne_eq, not_false_eq_true, Nat.reduceLT, Nat.reduceLeDiff, decide_true, decide_false, Bool.or_false, Bool.false_or, Bool.not_true, Bool.not_false, s_set, kset_s, seqR_n, put_mk, putL, kill_un, kill_val, kill_own, kill_ptr, kill_bound, kill_gb, List.map_cons, List.map_nil, List.set_cons_zero, List.set_cons_succ, Nat.reduceLT, ht, hp]
  rw [run_c]
  simp only [rE, List.isEmpty_nil, List.isEmpty_cons, Nat.reduceEqDiff, Nat.zero_le, beq_self_eq_true, Nat.reduceAdd, List.length_cons, List.length_nil, List.getElem?_cons_zero, List.getElem?_cons_succ, Option.getD_some, ↓reduceIte, and_self, true_and, and_true, ne_eq, not_false_eq_true, Nat.reduceLT, Nat.reduceLeDiff, decide_true, decide_false, Bool.or_false, Bool.false_or, Bool.not_true, Bool.not_false, rR, putL, List.map_cons, List.map_nil, List.set_cons_zero, List.set_cons_succ, List.cons_append, List.nil_append]
  have l1 : idxD (.str [c0]) (.int (-1)) = some (.str [c0]) := last_str rfl
  have l2 : idxD (.str [c1, c2]) (.int (-1)) = some (.str [c2]) := last_str rfl
  have l3 : idxD (.str [c1, c2]) (.int ((0 : Nat) : Int)) = some (.str [c1]) := idx_str' rfl (by decide)
  have l4 : idxD (.str [c3]) (.int ((0 : Nat) : Int)) = some (.str [c3]) := idx_str' rfl (by decide)
  have l5 : ∀ {A B C : D}, idxD (.list [A, B, C]) (.int ((0 : Nat) : Int)) = some A := idx_list' rfl (by decide)
  have l6 : ∀ {A B C : D}, idxD (.list [A, B, C]) (.int ((1 : Nat) : Int)) = some B := idx_list' rfl (by decide)
  have l7 : ∀ {A B C : D}, idxD (.list [A, B, C]) (.int ((2 : Nat) : Int)) = some C := idx_list' rfl (by decide)
  have er : rangeN ((2 : Nat) : Int) 2 (-1) = [.int ((2 : Nat) : Int), .int ((1 : Nat) : Int)] := rfl
  have turn : ∀ (x : D) (k : Nat), (k = 2 ∨ k = 1) → run no 100 [.ife (.cmp .Gt (.idx (.idx (.var 10) (.bin .Sub (.var 11) (.int 1))) (.int (-1))) (.idx (.idx (.var 10) (.var 11)) (.int 0))) [.bot] []]
      (put (mk (.val (.str text) :: .val (.obj a) :: .val (.str [46]) :: .own res :: .bound 3 :: .val (.int (i : Int)) :: .val (.int (n : Int)) :: [g7.s, .val (.int (j : Int)), .val (.str s), .own [.str [c0], .str [c1, c2], .str [c3]], .val x, .val (.str [c3])])) 11 (.val (.int (k : Int)))) =
      some (mk (.val (.str text) :: .val (.obj a) :: .val (.str [46]) :: .own res :: .bound 3 :: .val (.int (i : Int)) :: .val (.int (n : Int)) :: [g7.s, .val (.int (j : Int)), .val (.str s), .own [.str [c0], .str [c1, c2], .str [c3]], .val (.int (k : Int)), .val (.str [c3])]), .nxt) := by
    intro x k hk
    rcases hk with rfl | rfl
    · simp only [rE, List.isEmpty_nil, List.isEmpty_cons, Nat.reduceEqDiff, Nat.zero_le, beq_self_eq_true, Nat.reduceAdd, List.length_cons, List.length_nil, List.getElem?_cons_zero, List.getElem?_cons_succ, Option.getD_some, ↓reduceIte, and_self, true_and, and_true, ne_eq, not_false_eq_true, Nat.reduceLT, Nat.reduceLeDiff, decide_true, decide_false, Bool.or_false, Bool.false_or, Bool.not_true, Bool.not_false, rR, putL, List.map_cons, List.map_nil, List.set_cons_zero, List.set_cons_succ, l2, l4, l6, l7, h1, Nat.reduceSub]
    · simp only [rE, List.isEmpty_nil, List.isEmpty_cons, Nat.reduceEqDiff, Nat.zero_le, beq_self_eq_true, Nat.reduceAdd, List.length_cons, List.length_nil, List.getElem?_cons_zero, List.getElem?_cons_succ, Option.getD_some, ↓reduceIte, and_self, true_and, and_true, ne_eq, not_false_eq_true, Nat.reduceLT, Nat.reduceLeDiff, decide_true, decide_false, Bool.or_false, Bool.false_or, Bool.not_true, Bool.not_false, rR, putL, List.map_cons, List.map_nil, List.set_cons_zero, List.set_cons_succ, l1, l2, l3, l5, l6, l7, h2, Nat.reduceSub]
  rw [downF_s (k := 2) ?_ (by decide) (by rw [er]; exact (loopL_nxt (turn _ 2 (.inl rfl))).trans ((loopL_nxt (turn _ 1 (.inr rfl))).trans loopL_nil)), kspec_s, seqR_n, run_c, s_spec, genF_mk (ch := [.str [c0], .str [c1, c2], .str [c3]]) rfl rfl hg hg2]
  · simp only [rE, List.isEmpty_nil, List.isEmpty_cons, Nat.reduceEqDiff, Nat.zero_le, beq_self_eq_true, Nat.reduceAdd, List.length_cons, List.length_nil, List.getElem?_cons_zero, List.getElem?_cons_succ, Option.getD_some, ↓reduceIte, and_self, true_and, and_true, ne_eq, not_false_eq_true, Nat.reduceLT, Nat.reduceLeDiff, decide_true, decide_false, Bool.or_false, Bool.false_or, Bool.not_true, Bool.not_false, rR, putL, List.map_cons, List.map_nil, List.set_cons_zero, List.set_cons_succ]
  · simp only [rE, List.isEmpty_nil, List.isEmpty_cons, Nat.reduceEqDiff, Nat.zero_le, beq_self_eq_true, Nat.reduceAdd, List.length_cons, List.length_nil, List.getElem?_cons_zero, List.getElem?_cons_succ, Option.getD_some, ↓reduceIte, and_self, true_and, and_true, ne_eq, not_false_eq_true, Nat.reduceLT, Nat.reduceLeDiff, decide_true, decide_false, Bool.or_false, Bool.false_or, Bool.not_true, Bool.not_false, Nat.reduceSub]
end
end Mine
end

/-! U7 -/
section
open PySem PySem.W PyProof.Rows
set_option maxRecDepth 100000
set_option linter.unusedSimpArgs false
namespace Mine

section
variable {text : List Nat} {a : Addr} {res : List D} {i j n : Nat} {g7 g8 g9 g10 g11 g12 : Gb} {s : List Nat} {ch : List D} {k m : Nat}

theorem chunk_pre {σ' : Slots} {i' : Nat} {kk : Int} {c : Nat} (N : Nat) (hi : text[i]? = some c) (hb : i < 4611686018427387904) (hk : k = if c = 33 then i + 2 else i + 1)
    (H : loopW (evm no .test (.bool true)) (run no (N + 17) cTurn) (N + 17) (mk (stC text a res i n g7 j s [] (k : Int) g12)) = some (mk (stC text a res i' n g7 j s ch kk g12), .nxt))
    (E : run no (N + 17) cEnd (mk (stC text a res i' n g7 j s ch kk g12)) = some (σ', .nxt)) :
    run no (N + 20) cChunk (mk (stT text a res i n [g7.s, .val (.int (j : Int)), .val (.str s), g10.s, g11.s, g12.s])) = some (σ', .nxt) := by
  rw [cChunk_eq]
  unfold cLoop
  unfold stC stT at *
  by_cases hc : c = 33
  · rw [if_pos hc] at hk
    subst hk hc
    simp only [rE, List.isEmpty_nil, List.isEmpty_cons, Nat.reduceEqDiff, Nat.zero_le, beq_self_eq_true, Nat.reduceAdd, List.length_cons, List.length_nil, List.getElem?_cons_zero, List.getElem?_cons_succ, Option.getD_some, ↓reduceIte, and_self, true_and, and_true, ne_eq, not_false_eq_true, Nat.reduceLT, Nat.reduceLeDiff, decide_true, decide_false, Bool.or_false, Bool.false_or, Bool.not_true, Bool.not_false, rR, putL, List.map_cons, List.map_nil, List.set_cons_zero, List.set_cons_succ, idx_str' hi hb, H, E]
  · rw [if_neg hc] at hk
    subst hk
    simp only [rE, List.isEmpty_nil, List.isEmpty_cons, Nat.reduceEqDiff, Nat.zero_le, beq_self_eq_true, Nat.reduceAdd, List.length_cons, List.length_nil, List.getElem?_cons_zero, List.getElem?_cons_succ, Option.getD_some, ↓reduceIte, and_self, true_and, and_true, ne_eq, not_false_eq_true, Nat.reduceLT, Nat.reduceLeDiff, decide_true, decide_false, Bool.or_false, Bool.false_or, Bool.not_true, Bool.not_false, rR, putL, List.map_cons, List.map_nil, List.set_cons_zero, List.set_cons_succ, idx_str' hi hb, one_ne hc, H, E]

theorem after_dash {σ' : Slots} {i' : Nat} {t : List Nat} {h10 h11 h12 : Gb} (N : Nat) {suf : List Nat} (hd : text.drop i = s ++ 93 :: suf) (hj : j = i + s.length) (hn : n = text.length) (hb : n ≤ 1000000) (h45 : inStr [45] s = true)
    (C : run no (N + 30) cChunk (mk (stT text a res i n [g7.s, .val (.int (j : Int)), .val (.str s), g10.s, g11.s, g12.s])) = some (mk (stT text a res i' n [g7.s, .val (.int (j : Int)), .val (.str t), h10.s, h11.s, h12.s]), .nxt))
    (B : run no (N + 30) cFin (mk (stT text a res i' n [g7.s, .val (.int (j : Int)), .val (.str t), h10.s, h11.s, h12.s])) = some (σ', .nxt)) :
    run no (N + 32) cAfter (mk (stT text a res i n [g7.s, .val (.int (j : Int)), g9.s, g10.s, g11.s, g12.s])) = some (σ', .nxt) := by
  have hx : i + s.length < text.length := drop_lt (drop_app hd)
  have h2 : text.length ≤ 16777216 := by omega
  have h3 := drop_cut hd
  rw [← hj] at h3
  unfold cAfter
  unfold stT at *
  simp only [rE, List.isEmpty_nil, List.isEmpty_cons, Nat.reduceEqDiff, Nat.zero_le, beq_self_eq_true, Nat.reduceAdd, List.length_cons, List.length_nil, List.getElem?_cons_zero, List.getElem?_cons_succ, Option.getD_some, ↓reduceIte, and_self, true_and, and_true, ne_eq, not_false_eq_true, Nat.reduceLT, Nat.reduceLeDiff, decide_true, decide_false, Bool.or_false, Bool.false_or, Bool.not_true, Bool.not_false, rR, putL, List.map_cons, List.map_nil, List.set_cons_zero, List.set_cons_succ, h2, h3, h45, C, B]

noncomputable def tx : Itm → List Nat
  | .star => []
  | .set (some g) (some e) b => 91 :: (if b then [94] else []) ++ bodyT (octOf g e) ++ [93]
  | .set (some _) none _ => []
  | .set none none _ => [46]
  | .set none (some true) _ => [91, 0, 45, 63, 128, 45, 191, 93]
  | .set none (some false) _ => [91, 64, 45, 127, 192, 45, 255, 93]

theorem bodyT_cons {o : Nat} : ∃ c r, bodyT o = c :: r ∧ ¬ c = 33 ∧ ¬ c = 94 ∧ ¬ c = 91 ∧ r.length ≤ 2 := by
  unfold bodyT
  split
  · exact ⟨93, [221], rfl, by decide, by decide, by decide, by decide⟩
  · split
    · exact ⟨173, [92, 45], rfl, by decide, by decide, by decide, by decide⟩
    · split
      · exact ⟨o + 128, [92, o], rfl, by omega, by omega, by omega, by simp⟩
      · exact ⟨o + 128, [o], rfl, by omega, by omega, by omega, by simp⟩

/-- after the bracket's text -/
theorem fin_of {b : Bool} {o : Nat} (N : Nat) (hs : subC s = some (bang b ++ bodyT o)) (hl : res.length ≤ 1000000) :
    ∃ h9 : Gb, run no (N + 10) cFin (mk (stT text a res i n [g7.s, .val (.int (j : Int)), .val (.str s), g10.s, g11.s, g12.s])) = some (mk (stT text a (res ++ [.str (91 :: (if b then [94] else []) ++ bodyT o ++ [93])]) (j + 1) n [g7.s, .val (.int (j : Int)), h9.s, g10.s, g11.s, g12.s]), .nxt) := by
  obtain ⟨c, r, hc, c1, c2, c3, hr⟩ := bodyT_cons (o := o)
  rw [hc] at hs ⊢
  cases b
  · exact ⟨.v _, fin_plain N hs c1 c2 c3 (by omega) (by omega)⟩
  · exact ⟨.v _, fin_bar N hs (by omega) (by omega)⟩

/-- one turn of the loop -/
noncomputable def TurnOk (N : Nat) (text : List Nat) (a : Addr) (res : List D) (i n : Nat) (g7 g8 g9 g10 g11 g12 : Gb) (res' : List D) (i' : Nat) : Prop :=
  ∃ h7 h8 h9 h10 h11 h12 : Gb, run no (N + 200) cBody (mk (stT text a res i n [g7.s, g8.s, g9.s, g10.s, g11.s, g12.s])) = some (mk (stT text a res' i' n [h7.s, h8.s, h9.s, h10.s, h11.s, h12.s]), .nxt)

theorem turn_of {b : Bool} {o : Nat} (N : Nat) {suf : List Nat} (ho : o < 128) (h45 : o ≠ 45) (hd : text.drop i = 91 :: (bang b ++ pairT o) ++ 93 :: suf) (hn : n = text.length) (hb : n ≤ 1000000) (hl : res.length ≤ 1000000) :
    TurnOk N text a res i n g7 g8 g9 g10 g11 g12 (res ++ [.str (91 :: (if b then [94] else []) ++ bodyT o ++ [93])]) (i + 1 + (bang b ++ pairT o).length + 1) := by
  have hx : i < text.length := drop_lt hd
  have hd1 : text.drop (i + 1) = (bang b ++ pairT o) ++ 93 :: suf := drop_tail hd
  obtain ⟨c1, c2⟩ := chkA_get (b := b) ho h45
  have ht := drop_get hd
  have hB : ∀ {j : Nat}, j = i + 1 + (bang b ++ pairT o).length → ∃ h9 : Gb, run no (N + 190) cAfter (mk (stT text a res (i + 1) n [(Gb.v (.str [91])).s, .val (.int (j : Int)), g9.s, g10.s, g11.s, g12.s])) = some (mk (stT text a (res ++ [.str (91 :: (if b then [94] else []) ++ bodyT o ++ [93])]) (j + 1) n [(Gb.v (.str [91])).s, .val (.int (j : Int)), h9.s, g10.s, g11.s, g12.s]), .nxt) := by
    intro j hj
    obtain ⟨h9, e⟩ := fin_of (text := text) (a := a) (res := res) (i := i + 1) (j := j) (n := n) (g7 := .v (.str [91])) (g10 := g10) (g11 := g11) (g12 := g12) (N + 178) c2 hl
    exact ⟨h9, after_plain (N + 178) hd1 hj hn hb c1 e⟩
  have fin : ∀ {j : Nat}, j = i + 1 + (bang b ++ pairT o).length → (∀ σ', run no (N + 190) cAfter (mk (stT text a res (i + 1) n [(Gb.v (.str [91])).s, .val (.int (j : Int)), g9.s, g10.s, g11.s, g12.s])) = some (σ', .nxt) → run no (N + 195) cBrk (mk (stT text a res (i + 1) n [(Gb.v (.str [91])).s, g8.s, g9.s, g10.s, g11.s, g12.s])) = some (σ', .nxt)) →
      TurnOk N text a res i n g7 g8 g9 g10 g11 g12 (res ++ [.str (91 :: (if b then [94] else []) ++ bodyT o ++ [93])]) (i + 1 + (bang b ++ pairT o).length + 1) := by
    intro j hj H
    obtain ⟨h9, e⟩ := hB hj
    subst hj
    exact ⟨.v (.str [91]), .v _, h9, g10, g11, g12, turn_brk (N + 160) ht (by omega) (H _ e)⟩
  by_cases h93 : o = 93
  · subst h93
    cases b
    · exact fin rfl fun σ' e => brk_Q (N + 170) (r := [221]) hd1 hn (by omega) (by decide) (by simp) e
    · exact fin rfl fun σ' e => brk_S (N + 170) (r := [221]) hd1 hn (by omega) (by decide) (by simp) e
  · have hp : pairT o = [o + 128, o] := by unfold pairT; rw [if_neg h93]
    have hno : 93 ∉ [o + 128, o] := by simp; omega
    rw [hp] at hd1
    cases b
    · refine fin (j := i + 1 + [o + 128, o].length) (by rw [hp]; rfl) fun σ' e => brk_P (N + 170) (c := o + 128) (r := [o]) hd1 hn (by omega) (by omega) hno (by simp) e
    · refine fin (j := i + 1 + 1 + [o + 128, o].length) (by rw [hp]; rfl) fun σ' e => brk_R (N + 170) (c := o + 128) (r := [o]) hd1 hn (by omega) hno (by simp) e

theorem cut_nil {j : Nat} : (text.take j).drop j = [] := by
  apply List.drop_eq_nil_of_le
  rw [List.length_take]; omega

theorem turn_dash {b : Bool} (N : Nat) {suf : List Nat} (hd : text.drop i = 91 :: (bang b ++ [173, 45]) ++ 93 :: suf) (hn : n = text.length) (hb : n ≤ 1000000) (hl : res.length ≤ 1000000) :
    TurnOk N text a res i n g7 g8 g9 g10 g11 g12 (res ++ [.str (91 :: (if b then [94] else []) ++ bodyT 45 ++ [93])]) (i + 1 + (bang b ++ [173, 45]).length + 1) := by
  have hx : i < text.length := drop_lt hd
  have hd1 : text.drop (i + 1) = (bang b ++ [173, 45]) ++ 93 :: suf := drop_tail hd
  have ht := drop_get hd
  have hxx := drop_lt (drop_app hd1)
  cases b
  · have d0 : text.drop (i + 1) = 173 :: 45 :: 93 :: suf := hd1
    have d1 := drop_tail d0
    have hj : i + 1 + 2 ≤ text.length := by simp [bang] at hxx; omega
    have p1 : (text.take (i + 1 + 1)).drop (i + 1) = [173] := drop_cut (p := [173]) d0
    have f1 : findD (.str text) 45 (.int ((i + 1 + 1 : Nat) : Int)) (.int ((i + 1 + 2 : Nat) : Int)) = some (.int ((i + 1 + 1 : Nat) : Int)) := find_ok (by rw [d1, show i + 1 + 2 - (i + 1 + 1) = 0 + 1 by omega, findAt_hit]) hj (by omega)
    have f2 : findD (.str text) 45 (.int ((i + 1 + 1 + 3 : Nat) : Int)) (.int ((i + 1 + 2 : Nat) : Int)) = some (.int (-1)) := find_no (by rw [show i + 1 + 2 - (i + 1 + 1 + 3) = 0 by omega, findAt_0]) hj (by omega)
    have C := chunk_pre (a := a) (res := res) (n := n) (g7 := .v (.str [91])) (g10 := g10) (g11 := g11) (g12 := g12) (j := i + 1 + 2) (s := [173, 45]) (k := i + 1 + 1) (N + 168) (drop_get d0) (by omega) rfl
      (loop_turn (N + 175) (N + 184) f1 (by omega) (by simp) (loop_stop (N + 175) (N + 183) f2)) (by rw [p1]; exact end_A (N + 175) (x := [173]) (t := [173, 92, 45]) cut_nil (by omega) (by decide) (by decide +kernel) (by decide +kernel))
    obtain ⟨h9, e⟩ := fin_of (b := false) (o := 45) (text := text) (a := a) (res := res) (s := [173, 92, 45]) (i := i + 1 + 1 + 1) (j := i + 1 + 2) (n := n) (g7 := .v (.str [91])) (g10 := .o [.str ([173] ++ [45])]) (g11 := .v (.int (-1))) (g12 := .v (.str [])) (N + 178) (by decide +kernel) hl
    have e1 := after_dash (g9 := g9) (h10 := .o [.str ([173] ++ [45])]) (h11 := .v (.int (-1))) (h12 := .v (.str [])) (N + 158) (s := [173, 45]) d0 rfl hn hb (by decide +kernel) C e
    have e2 : run no (N + 195) cBrk (mk (stT text a res (i + 1) n [(Gb.v (.str [91])).s, g8.s, g9.s, g10.s, g11.s, g12.s])) = some (_, .nxt) := brk_P (N + 170) (c := 173) (r := [45]) d0 hn (by omega) (by decide) (by decide) (by simp) e1
    exact ⟨.v (.str [91]), .v _, h9, .o _, .v _, .v _, turn_brk (N + 160) ht (by omega) e2⟩
  · have d0 : text.drop (i + 1) = 33 :: 173 :: 45 :: 93 :: suf := hd1
    have d1 := drop_tail d0
    have d2 := drop_tail d1
    have hj : i + 1 + 3 ≤ text.length := by simp [bang] at hxx; omega
    have p1 : (text.take (i + 1 + 1 + 1)).drop (i + 1) = [33, 173] := drop_cut (p := [33, 173]) d0
    have f1 : findD (.str text) 45 (.int ((i + 1 + 1 + 1 : Nat) : Int)) (.int ((i + 1 + 3 : Nat) : Int)) = some (.int ((i + 1 + 1 + 1 : Nat) : Int)) := find_ok (by rw [d2, show i + 1 + 3 - (i + 1 + 1 + 1) = 0 + 1 by omega, findAt_hit]) hj (by omega)
    have f2 : findD (.str text) 45 (.int ((i + 1 + 1 + 1 + 3 : Nat) : Int)) (.int ((i + 1 + 3 : Nat) : Int)) = some (.int (-1)) := find_no (by rw [show i + 1 + 3 - (i + 1 + 1 + 1 + 3) = 0 by omega, findAt_0]) hj (by omega)
    have C := chunk_pre (a := a) (res := res) (n := n) (g7 := .v (.str [91])) (g10 := g10) (g11 := g11) (g12 := g12) (j := i + 1 + 3) (s := [33, 173, 45]) (k := i + 1 + 1 + 1) (N + 168) (drop_get d0) (by omega) rfl
      (loop_turn (N + 175) (N + 184) f1 (by omega) (by simp) (loop_stop (N + 175) (N + 183) f2)) (by rw [p1]; exact end_A (N + 175) (x := [33, 173]) (t := [33, 173, 92, 45]) cut_nil (by omega) (by decide) (by decide +kernel) (by decide +kernel))
    obtain ⟨h9, e⟩ := fin_of (b := true) (o := 45) (text := text) (a := a) (res := res) (s := [33, 173, 92, 45]) (i := i + 1 + 1 + 1 + 1) (j := i + 1 + 3) (n := n) (g7 := .v (.str [91])) (g10 := .o [.str ([33, 173] ++ [45])]) (g11 := .v (.int (-1))) (g12 := .v (.str [])) (N + 178) (by decide +kernel) hl
    have e1 := after_dash (g9 := g9) (h10 := .o [.str ([33, 173] ++ [45])]) (h11 := .v (.int (-1))) (h12 := .v (.str [])) (N + 158) (s := [33, 173, 45]) d0 rfl hn hb (by decide +kernel) C e
    have e2 : run no (N + 195) cBrk (mk (stT text a res (i + 1) n [(Gb.v (.str [91])).s, g8.s, g9.s, g10.s, g11.s, g12.s])) = some (_, .nxt) := brk_R (N + 170) (c := 173) (r := [45]) d0 hn (by omega) (by decide) (by simp) e1
    exact ⟨.v (.str [91]), .v _, h9, .o _, .v _, .v _, turn_brk (N + 160) ht (by omega) e2⟩

theorem turn_rng {x0 x1 x2 x3 : Nat} (N : Nat) {suf : List Nat} (hd : text.drop i = 91 :: [x0, 45, x1, x2, 45, x3] ++ 93 :: suf) (hn : n = text.length) (hb : n ≤ 1000000) (hl : res.length ≤ 1000000)
    (h33 : ¬ x0 = 33) (h94 : ¬ x0 = 94) (h91 : ¬ x0 = 91) (h93 : 93 ∉ [x0, 45, x1, x2, 45, x3]) (l1 : ltL [x3] [x2] = false) (l2 : ltL [x1] [x0] = false) (h45 : inStr [45] [x0, 45, x1, x2, 45, x3] = true)
    (hg : genOk [[x0], [x1, x2], [x3]] = true) (hg2 : (Txt.join hyp (genOut [[x0], [x1, x2], [x3]])).cps.toList = [x0, 45, x1, x2, 45, x3]) (hs : subC [x0, 45, x1, x2, 45, x3] = some [x0, 45, x1, x2, 45, x3]) :
    TurnOk N text a res i n g7 g8 g9 g10 g11 g12 (res ++ [.str [91, x0, 45, x1, x2, 45, x3, 93]]) (i + 1 + 6 + 1) := by
  have hx : i < text.length := drop_lt hd
  have d0 : text.drop (i + 1) = x0 :: 45 :: x1 :: x2 :: 45 :: x3 :: 93 :: suf := drop_tail hd
  have ht := drop_get hd
  have d1 := drop_tail d0
  have d2 := drop_tail d1
  have d3 := drop_tail d2
  have d4 := drop_tail d3
  have d5 := drop_tail d4
  have hxx := drop_lt (drop_tail d5)
  have hj : i + 1 + 6 ≤ text.length := by omega
  have p1 : (text.take (i + 1 + 1)).drop (i + 1) = [x0] := drop_cut (p := [x0]) d0
  have p2 : (text.take (i + 1 + 1 + 3)).drop (i + 1 + 1 + 1) = [x1, x2] := drop_cut (p := [x1, x2]) d2
  have p3 : (text.take (i + 1 + 6)).drop (i + 1 + 1 + 3 + 1) = [x3] := drop_cut (p := [x3]) d5
  have f1 : findD (.str text) 45 (.int ((i + 1 + 1 : Nat) : Int)) (.int ((i + 1 + 6 : Nat) : Int)) = some (.int ((i + 1 + 1 : Nat) : Int)) := find_ok (by rw [d1, show i + 1 + 6 - (i + 1 + 1) = 4 + 1 by omega, findAt_hit]) hj (by omega)
  have f2 : findD (.str text) 45 (.int ((i + 1 + 1 + 3 : Nat) : Int)) (.int ((i + 1 + 6 : Nat) : Int)) = some (.int ((i + 1 + 1 + 3 : Nat) : Int)) := find_ok (by rw [show text.drop (i + 1 + 1 + 3) = 45 :: x3 :: 93 :: suf from d4, show i + 1 + 6 - (i + 1 + 1 + 3) = 1 + 1 by omega, findAt_hit]) hj (by omega)
  have f3 : findD (.str text) 45 (.int ((i + 1 + 1 + 3 + 3 : Nat) : Int)) (.int ((i + 1 + 6 : Nat) : Int)) = some (.int (-1)) := find_no (by rw [show i + 1 + 6 - (i + 1 + 1 + 3 + 3) = 0 by omega, findAt_0]) hj (by omega)
  have C := chunk_pre (a := a) (res := res) (n := n) (g7 := .v (.str [91])) (g10 := g10) (g11 := g11) (g12 := g12) (j := i + 1 + 6) (s := [x0, 45, x1, x2, 45, x3]) (k := i + 1 + 1) (N + 168) (drop_get d0) (by omega) (by rw [if_neg h33])
    (loop_turn (N + 175) (N + 184) f1 (by omega) (by simp) (loop_turn (N + 175) (N + 183) f2 (by omega) (by simp) (loop_stop (N + 175) (N + 182) f3))) (by rw [p1, p2]; exact end_B (N + 175) p3 (by omega) l1 l2 hg hg2)
  have e := fin_plain (text := text) (a := a) (res := res) (s := [x0, 45, x1, x2, 45, x3]) (i := i + 1 + 1 + 3 + 1) (j := i + 1 + 6) (n := n) (g7 := .v (.str [91])) (g10 := .o [.str [x0], .str [x1, x2], .str [x3]]) (g11 := .v (.int ((1 : Nat) : Int))) (g12 := .v (.str [x3])) (N + 178) hs h33 h94 h91 (by omega) (by simp)
  have e1 := after_dash (g9 := g9) (h10 := .o [.str [x0], .str [x1, x2], .str [x3]]) (h11 := .v (.int ((1 : Nat) : Int))) (h12 := .v (.str [x3])) (N + 158) (s := [x0, 45, x1, x2, 45, x3]) d0 rfl hn hb h45 C e
  have e2 : run no (N + 195) cBrk (mk (stT text a res (i + 1) n [(Gb.v (.str [91])).s, g8.s, g9.s, g10.s, g11.s, g12.s])) = some (_, .nxt) := brk_P (N + 170) (c := x0) (r := [45, x1, x2, 45, x3]) d0 hn (by omega) h33 h93 (by simp) e1
  exact ⟨.v (.str [91]), .v _, .v _, .o _, .v _, .v _, turn_brk (N + 160) ht (by omega) e2⟩

/-- a turn for every item but the star -/
theorem turn_set {it : Itm} (N : Nat) {suf : List Nat} (ok : okI it = true) (hs : it ≠ .star) (hd : text.drop i = wr it ++ suf) (hn : n = text.length) (hb : n ≤ 1000000) (hl : res.length ≤ 1000000) :
    TurnOk N text a res i n g7 g8 g9 g10 g11 g12 (res ++ [.str (tx it)]) (i + (wr it).length) := by
  rcases it with _ | ⟨_ | g, _ | e, b⟩
  · exact absurd rfl hs
  · exact ⟨.v _, g8, g9, g10, g11, g12, turn_any (N + 190) (drop_get hd) (by have := drop_lt hd; omega) (by omega)⟩
  · cases e
    · exact turn_rng N (suf := suf) hd hn hb hl (by decide) (by decide) (by decide) (by decide) (by decide +kernel) (by decide +kernel) (by decide +kernel) (by decide +kernel) (by decide +kernel) (by decide +kernel)
    · exact turn_rng N (suf := suf) hd hn hb hl (by decide) (by decide) (by decide) (by decide) (by decide +kernel) (by decide +kernel) (by decide +kernel) (by decide +kernel) (by decide +kernel) (by decide +kernel)
  · cases ok
  · have hg : g < 64 := of_decide_eq_true ok
    have ho : octOf g e < 128 := by unfold octOf; split <;> omega
    have hw : wr (.set (some g) (some e) b) = 91 :: (bang b ++ pairT (octOf g e)) ++ [93] := by
      unfold wr bang; cases b <;> simp
    have hlen : i + (wr (.set (some g) (some e) b)).length = i + 1 + (bang b ++ pairT (octOf g e)).length + 1 := by
      rw [hw, List.length_append, List.length_cons, List.length_singleton]; omega
    rw [hlen]
    rw [hw, List.append_assoc] at hd
    have htx : tx (.set (some g) (some e) b) = 91 :: (if b then [94] else []) ++ bodyT (octOf g e) ++ [93] := rfl
    rw [htx]
    by_cases h45 : octOf g e = 45
    · rw [h45] at hd ⊢
      exact turn_dash N hd hn hb hl
    · exact turn_of N ho h45 hd hn hb hl
end
end Mine
end

/-! U8 -/
section
open PySem PySem.W PyProof.Rows
set_option maxRecDepth 100000
set_option linter.unusedSimpArgs false
namespace Mine

noncomputable def part (a : Addr) : Itm → D
  | .star => .obj a
  | it => .str (tx it)
noncomputable def addC (c : List Itm) (it : Itm) : List Itm := match it with
  | .star => (match c.getLast? with
    | some .star => c
    | _ => c ++ [.star])
  | it => c ++ [it]
noncomputable def cl (its : List Itm) : List Itm := its.foldl addC []

theorem addC_set {c : List Itm} {it : Itm} (h : it ≠ .star) : addC c it = c ++ [it] := by
  cases it with
  | star => exact absurd rfl h
  | set => rfl
theorem part_set {a : Addr} {it : Itm} (h : it ≠ .star) : part a it = .str (tx it) := by
  cases it with
  | star => exact absurd rfl h
  | set => rfl
theorem addC_len {c : List Itm} {it : Itm} : (addC c it).length ≤ c.length + 1 := by
  unfold addC
  split
  · split <;> simp
  · simp

section
variable {text : List Nat} {a : Addr} {i n : Nat}

theorem turn_item {it : Itm} {c : List Itm} {g7 g8 g9 g10 g11 g12 : Gb} (N : Nat) {suf : List Nat} (ok : okI it = true) (hd : text.drop i = wr it ++ suf) (hn : n = text.length) (hb : n ≤ 1000000) (hl : c.length ≤ 1000000) :
    TurnOk N text a (c.map (part a)) i n g7 g8 g9 g10 g11 g12 ((addC c it).map (part a)) (i + (wr it).length) := by
  have hl' : (c.map (part a)).length ≤ 1000000 := by simpa using hl
  by_cases hs : it = .star
  · subst hs
    have ht := drop_get hd
    have hi : i < 4611686018427387904 := by have := drop_lt hd; omega
    cases hc : c.getLast? with
    | none =>
      have : c = [] := by simpa using hc
      subst this
      exact ⟨.v _, g8, g9, g10, g11, g12, turn_star0 (N + 190) ht hi⟩
    | some x =>
      have hm : (c.map (part a)).getLast? = some (part a x) := by rw [List.getLast?_map, hc]; rfl
      by_cases hx : x = .star
      · subst hx
        have : addC c .star = c := by simp only [addC, hc]
        rw [this]
        exact ⟨.v _, g8, g9, g10, g11, g12, turn_star2 (N + 190) ht hi hm (by omega)⟩
      · have : addC c .star = c ++ [.star] := by
          simp only [addC, hc]
          cases x with
          | star => exact absurd rfl hx
          | set => rfl
        rw [this, List.map_append]
        rw [part_set hx] at hm
        exact ⟨.v _, g8, g9, g10, g11, g12, turn_star1 (N + 190) ht hi hm (by omega)⟩
  · rw [addC_set hs, List.map_append, List.map_cons, List.map_nil, part_set hs]
    exact turn_set N ok hs hd hn hb hl'

theorem items_loop (N : Nat) (hn : n = text.length) (hb : n ≤ 1000000) : ∀ (its : List Itm) (i : Nat) (c : List Itm) (k : Nat) (g7 g8 g9 g10 g11 g12 : Gb), (∀ it ∈ its, okI it = true) → text.drop i = its.flatMap wr → i ≤ n → c.length + its.length ≤ 1000000 → its.length < k →
    ∃ h7 h8 h9 h10 h11 h12 : Gb, loopW (evm no .test (.cmp .Lt (.var 5) (.var 6))) (run no (N + 200) cBody) k (mk (stT text a (c.map (part a)) i n [g7.s, g8.s, g9.s, g10.s, g11.s, g12.s])) =
      some (mk (stT text a ((its.foldl addC c).map (part a)) n n [h7.s, h8.s, h9.s, h10.s, h11.s, h12.s]), .nxt)
  | [], i, c, k, g7, g8, g9, g10, g11, g12, ok, hd, hi, hl, hk => by
    obtain ⟨k, rfl⟩ : ∃ m, k = m + 1 := ⟨k - 1, by simp at hk; omega⟩
    have e : i = n := by
      have := congrArg List.length hd
      simp at this
      omega
    subst e
    refine ⟨g7, g8, g9, g10, g11, g12, loopW_end ?_⟩
    unfold stT
    simp only [rE, List.isEmpty_nil, List.isEmpty_cons, Nat.reduceEqDiff, Nat.zero_le, beq_self_eq_true, Nat.reduceAdd, List.length_cons, List.length_nil, List.getElem?_cons_zero, List.getElem?_cons_succ, Option.getD_some, ↓reduceIte, and_self, true_and, and_true, ne_eq, not_false_eq_true, Nat.reduceLT, Nat.reduceLeDiff, decide_true, decide_false, Bool.or_false, Bool.false_or, Bool.not_true, Bool.not_false, Nat.lt_irrefl]
  | it :: its, i, c, k, g7, g8, g9, g10, g11, g12, ok, hd, hi, hl, hk => by
    obtain ⟨k, rfl⟩ : ∃ m, k = m + 1 := ⟨k - 1, by simp at hk; omega⟩
    rw [List.flatMap_cons] at hd
    have hw : 0 < (wr it).length := by
      have := ok it (by simp)
      rcases it with _ | ⟨_ | g, _ | e, b⟩
      · exact Nat.zero_lt_one
      · exact Nat.zero_lt_one
      · cases e <;> exact Nat.zero_lt_succ _
      · cases this
      · unfold wr; simp; omega
    have hin : i < n := by
      have := drop_len hd (by omega)
      rw [List.length_append] at this
      omega
    obtain ⟨h7, h8, h9, h10, h11, h12, e⟩ := turn_item (a := a) (c := c) (g7 := g7) (g8 := g8) (g9 := g9) (g10 := g10) (g11 := g11) (g12 := g12) N (ok it (by simp)) hd hn hb (by simp at hl; omega)
    have hc := addC_len (c := c) (it := it)
    have hle : i + (wr it).length ≤ n := by
      have := drop_len hd (by omega)
      rw [List.length_append] at this
      omega
    obtain ⟨k7, k8, k9, k10, k11, k12, e2⟩ := items_loop N hn hb its (i + (wr it).length) (addC c it) k h7 h8 h9 h10 h11 h12 (fun x hx => ok x (by simp [hx])) (drop_app hd) hle (by simp at hl; omega) (by simp at hk; omega)
    refine ⟨k7, k8, k9, k10, k11, k12, (loopW_nxt ?_ e).trans e2⟩
    unfold stT
    simp only [rE, List.isEmpty_nil, List.isEmpty_cons, Nat.reduceEqDiff, Nat.zero_le, beq_self_eq_true, Nat.reduceAdd, List.length_cons, List.length_nil, List.getElem?_cons_zero, List.getElem?_cons_succ, Option.getD_some, ↓reduceIte, and_self, true_and, and_true, ne_eq, not_false_eq_true, Nat.reduceLT, Nat.reduceLeDiff, decide_true, decide_false, Bool.or_false, Bool.false_or, Bool.not_true, Bool.not_false, hin]
end

theorem translate_ok (a : Addr) (its : List Itm) (ok : ∀ it ∈ its, okI it = true) (hlen : its.length ≤ 1000) (ht : (its.flatMap wr).length ≤ 100000) :
    runFn no fuel 3 code_translate [.str (its.flatMap wr), .obj a, .str [46]] = some (.list ((cl its).map (part a))) := by
  refine run_fnE 10 rfl ?_
  obtain ⟨h7, h8, h9, h10, h11, h12, e⟩ := items_loop (a := a) (n := (its.flatMap wr).length) 1796 rfl (by omega) its 0 [] 1996 .u .u .u .u .u .u ok rfl (by omega) (by simp; omega) (by omega)
  rw [show its.foldl addC [] = cl its from rfl] at e
  generalize its.flatMap wr = text at *
  have hl2 : text.length ≤ 16777216 := by omega
  refine retE (σ := ?_) ?_
  rotate_left
  · rw [code_translate_eq]
    simp only [List.replicate, List.map_cons, List.map_nil, List.cons_append, List.nil_append]
    have gu : Gb.u.s = .un := rfl
    unfold stT at e
    simp only [gu, List.map_nil] at e
    simp only [rE, List.isEmpty_nil, List.isEmpty_cons, Nat.reduceEqDiff, Nat.zero_le, beq_self_eq_true, Nat.reduceAdd, List.length_cons, List.length_nil, List.getElem?_cons_zero, List.getElem?_cons_succ, Option.getD_some, ↓reduceIte, and_self, true_and, and_true, ne_eq, not_false_eq_true, Nat.reduceLT, Nat.reduceLeDiff, decide_true, decide_false, Bool.or_false, Bool.false_or, Bool.not_true, Bool.not_false, rR, putL, List.map_cons, List.map_nil, List.set_cons_zero, List.set_cons_succ, hl2, e]
    rfl
end Mine
end

/-! U9 -/
section
open PySem PySem.W PyProof.Rows
set_option maxRecDepth 100000
set_option linter.unusedSimpArgs false
namespace Mine

theorem jn_nil' : ∀ ls : List (List Nat), jn [] ls = ls.flatten
  | [] => rfl
  | [x] => by simp [jn]
  | x :: y :: r => by
    have := jn_nil' (y :: r)
    unfold jn
    rw [this]
    simp
theorem allStr_map' : ∀ ls : List (List Nat), allStr (ls.map D.str) = some ls
  | [] => rfl
  | x :: r => by
    rw [List.map_cons, allStr, allStr_map' r]
theorem join_ok {ls : List (List Nat)} (h : (ls.map List.length).sum ≤ 16777216) : joinD [] (.list (ls.map D.str)) = some (.str ls.flatten) := by
  unfold joinD
  simp only [allStr_map']
  have h' : (ls.map List.length).sum + ls.length * ([] : List Nat).length ≤ lim := by
    show _ ≤ 16777216
    simpa using h
  rw [if_pos h', jn_nil']

noncomputable def out1 (g : List (List Nat)) : List (List (List Nat)) → List (List Nat)
  | [] => [[46, 42], g.flatten]
  | _ :: _ => [[40, 63, 62, 46, 42, 63] ++ g.flatten ++ [41]]
noncomputable def outs : List (List (List Nat)) → List (List Nat)
  | [] => []
  | [g] => [[46, 42], g.flatten]
  | g :: r => ([40, 63, 62, 46, 42, 63] ++ g.flatten ++ [41]) :: outs r

noncomputable def jIn (a : Addr) (F : List (List Nat)) (R : List (List (List Nat))) : List D := F.map D.str ++ R.flatMap fun g => .obj a :: g.map D.str
noncomputable def jC1 : List S := [.add 3 (.idx (.var 0) (.var 4)), .aug .Add 4 (.int (1))]
noncomputable def jC2 : List S := [.app 6 (.idx (.var 0) (.var 4)), .aug .Add 4 (.int (1))]
noncomputable def jT : E := .and (.cmp .Lt (.var 4) (.var 5)) (.cmp .IsNot (.idx (.var 0) (.var 4)) (.var 1))
noncomputable def jC : List S := [.asr (.cmp .Is (.idx (.var 0) (.var 4)) (.var 1)),
  .aug .Add 4 (.int (1)),
  .ife (.cmp .Eq (.var 4) (.var 5)) [.add 3 (.str [46, 42]), .brk] [],
  .asr (.cmp .IsNot (.idx (.var 0) (.var 4)) (.var 1)),
  .own0 6,
  .whl jT jC2,
  .set 6 (.join [] (.var 6)),
  .ife (.cmp .Eq (.var 4) (.var 5)) [.add 3 (.str [46, 42]), .add 3 (.var 6)] [.add 3 (.cat3 (.str [40, 63, 62, 46, 42, 63]) (.var 6) (.str [41]))]]
theorem code_join_eq : code_join_translated_parts = [.own0 2, .bnd 3 2, .swp 4 5 (.int (0)) (.len (.var 0)), .whl jT jC1, .whl (.cmp .Lt (.var 4) (.var 5)) jC, .asr (.cmp .Eq (.var 4) (.var 5)), .set 2 (.join [] (.var 2)), .ret (.cat3 (.str [40, 63, 115, 58]) (.var 2) (.str [41, 92, 90]))] := rfl

noncomputable def stJ (inp : List D) (a : Addr) (rs : List (List Nat)) (i n : Nat) (g : SV) : List SV := [.val (.list inp), .val (.obj a), .own (rs.map D.str), .bound 2, .val (.int (i : Int)), .val (.int (n : Int)), g]

section
variable {Φ : Str → List D → Option D} {inp : List D} {a : Addr} {n : Nat}

/-- behind a segment: a star or nothing -/
noncomputable def Stop (a : Addr) (t : List D) : Prop := t = [] ∨ ∃ r, t = .obj a :: r

theorem jT_end {rs : List (List Nat)} {i : Nat} {g : SV} {t : List D} (hd : inp.drop i = t) (hn : n = inp.length) (hi : i ≤ n) (hb : n ≤ 1000000) (hs : Stop a t) : evm Φ .test jT (mk (stJ inp a rs i n g)) = some (.bool false) := by
  unfold jT stJ
  rcases hs with rfl | ⟨r, rfl⟩
  · have : ¬ i < n := by
      have := drop_len hd (by omega)
      simp at this; omega
    simp only [rE, List.isEmpty_nil, List.isEmpty_cons, Nat.reduceEqDiff, Nat.zero_le, beq_self_eq_true, Nat.reduceAdd, List.length_cons, List.length_nil, List.getElem?_cons_zero, List.getElem?_cons_succ, Option.getD_some, ↓reduceIte, and_self, true_and, and_true, ne_eq, not_false_eq_true, Nat.reduceLT, Nat.reduceLeDiff, decide_true, decide_false, Bool.or_false, Bool.false_or, Bool.not_true, Bool.not_false, this]
  · have h1 : i < n := by have := drop_lt hd; omega
    simp only [rE, List.isEmpty_nil, List.isEmpty_cons, Nat.reduceEqDiff, Nat.zero_le, beq_self_eq_true, Nat.reduceAdd, List.length_cons, List.length_nil, List.getElem?_cons_zero, List.getElem?_cons_succ, Option.getD_some, ↓reduceIte, and_self, true_and, and_true, ne_eq, not_false_eq_true, Nat.reduceLT, Nat.reduceLeDiff, decide_true, decide_false, Bool.or_false, Bool.false_or, Bool.not_true, Bool.not_false, h1, idx_list' (drop_get hd) (by omega)]
theorem jT_go {rs : List (List Nat)} {i : Nat} {g : SV} {t : List D} {x : List Nat} (hd : inp.drop i = .str x :: t) (hn : n = inp.length) (hb : n ≤ 1000000) : evm Φ .test jT (mk (stJ inp a rs i n g)) = some (.bool true) := by
  unfold jT stJ
  have h1 : i < n := by have := drop_lt hd; omega
  simp only [rE, List.isEmpty_nil, List.isEmpty_cons, Nat.reduceEqDiff, Nat.zero_le, beq_self_eq_true, Nat.reduceAdd, List.length_cons, List.length_nil, List.getElem?_cons_zero, List.getElem?_cons_succ, Option.getD_some, ↓reduceIte, and_self, true_and, and_true, ne_eq, not_false_eq_true, Nat.reduceLT, Nat.reduceLeDiff, decide_true, decide_false, Bool.or_false, Bool.false_or, Bool.not_true, Bool.not_false, h1, idx_list' (drop_get hd) (by omega)]

theorem j1 (N : Nat) (hn : n = inp.length) (hb : n ≤ 1000000) {t : List D} (hs : Stop a t) (g : Gb) : ∀ (seg rs : List (List Nat)) (i k : Nat), inp.drop i = seg.map D.str ++ t → i ≤ n → rs.length + seg.length ≤ 1000000 → seg.length < k →
    loopW (evm Φ .test jT) (run Φ (N + 5) jC1) k (mk (stJ inp a rs i n g.s)) = some (mk (stJ inp a (rs ++ seg) (i + seg.length) n g.s), .nxt)
  | [], rs, i, k, hd, hi, hl, hk => by
    obtain ⟨k, rfl⟩ : ∃ m, k = m + 1 := ⟨k - 1, by simp at hk; omega⟩
    rw [loopW_end (jT_end hd hn hi hb hs), List.append_nil]; rfl
  | x :: seg, rs, i, k, hd, hi, hl, hk => by
    obtain ⟨k, rfl⟩ : ∃ m, k = m + 1 := ⟨k - 1, by simp at hk; omega⟩
    have h1 : i < n := by have := drop_lt hd; omega
    have hl2 : (rs.map D.str).length ≤ 16777216 := by simp at hl ⊢; omega
    refine (loopW_nxt (σ' := mk (stJ inp a (rs ++ [x]) (i + 1) n g.s)) (jT_go hd hn hb) ?_).trans ?_
    · unfold jC1 stJ
      simp only [rE, List.isEmpty_nil, List.isEmpty_cons, Nat.reduceEqDiff, Nat.zero_le, beq_self_eq_true, Nat.reduceAdd, List.length_cons, List.length_nil, List.getElem?_cons_zero, List.getElem?_cons_succ, Option.getD_some, ↓reduceIte, and_self, true_and, and_true, ne_eq, not_false_eq_true, Nat.reduceLT, Nat.reduceLeDiff, decide_true, decide_false, Bool.or_false, Bool.false_or, Bool.not_true, Bool.not_false, rR, putL, List.map_cons, List.map_nil, List.set_cons_zero, List.set_cons_succ, idx_list' (drop_get hd) (by omega), hl2, List.map_append]
    · rw [j1 N hn hb hs g seg (rs ++ [x]) (i + 1) k (drop_tail hd) (by omega) (by simp at hl ⊢; omega) (by simp at hk; omega), List.append_assoc, List.length_cons, Nat.add_assoc, Nat.add_comm 1]; rfl
theorem j2 (N : Nat) (hn : n = inp.length) (hb : n ≤ 1000000) {t : List D} (hs : Stop a t) {rs : List (List Nat)} : ∀ (seg fs : List (List Nat)) (i k : Nat), inp.drop i = seg.map D.str ++ t → i ≤ n → fs.length + seg.length ≤ 1000000 → seg.length < k →
    loopW (evm Φ .test jT) (run Φ (N + 5) jC2) k (mk (stJ inp a rs i n (.own (fs.map D.str)))) = some (mk (stJ inp a rs (i + seg.length) n (.own ((fs ++ seg).map D.str))), .nxt)
  | [], fs, i, k, hd, hi, hl, hk => by
    obtain ⟨k, rfl⟩ : ∃ m, k = m + 1 := ⟨k - 1, by simp at hk; omega⟩
    rw [loopW_end (jT_end hd hn hi hb hs), List.append_nil]; rfl
  | x :: seg, fs, i, k, hd, hi, hl, hk => by
    obtain ⟨k, rfl⟩ : ∃ m, k = m + 1 := ⟨k - 1, by simp at hk; omega⟩
    have h1 : i < n := by have := drop_lt hd; omega
    have hl2 : (fs.map D.str).length ≤ 16777216 := by simp at hl ⊢; omega
    refine (loopW_nxt (σ' := mk (stJ inp a rs (i + 1) n (.own ((fs ++ [x]).map D.str)))) (jT_go hd hn hb) ?_).trans ?_
    · unfold jC2 stJ
      simp only [rE, List.isEmpty_nil, List.isEmpty_cons, Nat.reduceEqDiff, Nat.zero_le, beq_self_eq_true, Nat.reduceAdd, List.length_cons, List.length_nil, List.getElem?_cons_zero, List.getElem?_cons_succ, Option.getD_some, ↓reduceIte, and_self, true_and, and_true, ne_eq, not_false_eq_true, Nat.reduceLT, Nat.reduceLeDiff, decide_true, decide_false, Bool.or_false, Bool.false_or, Bool.not_true, Bool.not_false, rR, putL, List.map_cons, List.map_nil, List.set_cons_zero, List.set_cons_succ, idx_list' (drop_get hd) (by omega), hl2, List.map_append]
    · rw [j2 N hn hb hs seg (fs ++ [x]) (i + 1) k (drop_tail hd) (by omega) (by simp at hl ⊢; omega) (by simp at hk; omega), List.append_assoc, List.length_cons, Nat.add_assoc, Nat.add_comm 1]; rfl

noncomputable def jR (a : Addr) (R : List (List (List Nat))) : List D := R.flatMap fun g => .obj a :: g.map D.str
theorem stop_jR (R) : Stop a (jR a R) := by
  cases R with
  | nil => exact .inl rfl
  | cons g r => exact .inr ⟨_, rfl⟩

/-- one turn of the outer loop -/
theorem jTurn (N : Nat) (hn : n = inp.length) (hb : n ≤ 1000000) {x : List Nat} {g : List (List Nat)} {r : List (List (List Nat))} {rs : List (List Nat)} {i : Nat} {gb : Gb} (hd : inp.drop i = jR a ((x :: g) :: r)) (hsum : ((x :: g).map List.length).sum ≤ 1000000) (hg : (x :: g).length ≤ N) (hrs : rs.length ≤ 1000000) :
    ∃ gb' : Gb, run Φ (N + 20) jC (mk (stJ inp a rs i n gb.s)) = some (mk (stJ inp a (rs ++ out1 (x :: g) r) (i + 1 + (x :: g).length) n gb'.s), .nxt) := by
  have hd0 : inp.drop i = .obj a :: ((x :: g).map D.str ++ jR a r) := by rw [hd]; simp [jR]
  have hd1 := drop_tail hd0
  have hx := drop_lt hd1
  have hlen := drop_len hd1 (by omega)
  rw [List.length_append, List.length_map] at hlen
  have e0 : (i + 1 == n) = false := by simp; omega
  have lp := j2 (Φ := Φ) (rs := rs) (N + 9) hn hb (stop_jR r) (x :: g) [] (i + 1) (N + 14) hd1 (by omega) (by simp; have := hg; simp at hlen hg; omega) (by omega)
  rw [List.nil_append] at lp
  have jk := join_ok (ls := x :: g) (by omega)
  have hfl : (x :: g).flatten.length ≤ 1000000 := by rw [List.length_flatten]; exact hsum
  have hl2 : (rs.map D.str).length ≤ 16777216 := by simp; omega
  have hl3 : (rs.map D.str ++ [D.str [46, 42]]).length ≤ 16777216 := by simp; omega
  have h6 : 0 + 1 + 1 + 1 + 1 + 1 + 1 + (x :: g).flatten.length + (0 + 1) ≤ 16777216 := by omega
  generalize hL : (x :: g).length = L at *
  unfold out1
  generalize hF : (x :: g).flatten = F at *
  generalize hG : (x :: g).map D.str = G at *
  refine ⟨.v (.str F), ?_⟩
  unfold jC
  unfold stJ at *
  simp only [List.map_nil] at lp
  have hx2 : inp[i + 1]? = some (.str x) := by
    rw [← hG] at hd1
    exact drop_get hd1
  cases r with
  | nil =>
    have e1 : (i + 1 + L == n) = true := by simp [jR] at hlen ⊢; omega
    simp only [rE, List.isEmpty_nil, List.isEmpty_cons, Nat.reduceEqDiff, Nat.zero_le, beq_self_eq_true, Nat.reduceAdd, List.length_cons, List.length_nil, List.getElem?_cons_zero, List.getElem?_cons_succ, Option.getD_some, ↓reduceIte, and_self, true_and, and_true, ne_eq, not_false_eq_true, Nat.reduceLT, Nat.reduceLeDiff, decide_true, decide_false, Bool.or_false, Bool.false_or, Bool.not_true, Bool.not_false, rR, putL, List.map_cons, List.map_nil, List.set_cons_zero, List.set_cons_succ, idx_list' (drop_get hd0) (by omega), idx_list' hx2 (by omega), e0, e1, lp, jk, hl2, hl3, List.map_append, List.append_assoc, List.cons_append, List.nil_append]
    rfl
  | cons g2 r2 =>
    have e1 : (i + 1 + L == n) = false := by simp [jR] at hlen ⊢; omega
    simp only [rE, List.isEmpty_nil, List.isEmpty_cons, Nat.reduceEqDiff, Nat.zero_le, beq_self_eq_true, Nat.reduceAdd, List.length_cons, List.length_nil, List.getElem?_cons_zero, List.getElem?_cons_succ, Option.getD_some, ↓reduceIte, and_self, true_and, and_true, ne_eq, not_false_eq_true, Nat.reduceLT, Nat.reduceLeDiff, decide_true, decide_false, Bool.or_false, Bool.false_or, Bool.not_true, Bool.not_false, rR, putL, List.map_cons, List.map_nil, List.set_cons_zero, List.set_cons_succ, idx_list' (drop_get hd0) (by omega), idx_list' hx2 (by omega), e0, e1, lp, jk, hl2, h6, List.map_append, List.append_assoc, List.cons_append, List.nil_append]
    rfl

theorem outs_cons {g : List (List Nat)} {r : List (List (List Nat))} : outs (g :: r) = out1 g r ++ outs r := by
  cases r with
  | nil => rfl
  | cons => rfl

theorem jOuter (N : Nat) (hn : n = inp.length) (hb : n ≤ 1000000) (hnN : n ≤ N) : ∀ (R : List (List (List Nat))) (rs : List (List Nat)) (i k : Nat) (gb : Gb), (∀ g ∈ R, g ≠ [] ∧ (g.map List.length).sum ≤ 1000000) → inp.drop i = jR a R → i ≤ n → rs.length + 2 * R.length ≤ 1000000 → R.length < k →
    ∃ gb' : Gb, loopW (evm Φ .test (.cmp .Lt (.var 4) (.var 5))) (run Φ (N + 20) jC) k (mk (stJ inp a rs i n gb.s)) = some (mk (stJ inp a (rs ++ outs R) n n gb'.s), .nxt)
  | [], rs, i, k, gb, hR, hd, hi, hl, hk => by
    obtain ⟨k, rfl⟩ : ∃ m, k = m + 1 := ⟨k - 1, by simp at hk; omega⟩
    have e : i = n := by
      have := drop_len hd (by omega)
      simp [jR] at this
      omega
    subst e
    refine ⟨gb, ?_⟩
    rw [loopW_end, outs, List.append_nil]
    unfold stJ
    simp only [rE, List.isEmpty_nil, List.isEmpty_cons, Nat.reduceEqDiff, Nat.zero_le, beq_self_eq_true, Nat.reduceAdd, List.length_cons, List.length_nil, List.getElem?_cons_zero, List.getElem?_cons_succ, Option.getD_some, ↓reduceIte, and_self, true_and, and_true, ne_eq, not_false_eq_true, Nat.reduceLT, Nat.reduceLeDiff, decide_true, decide_false, Bool.or_false, Bool.false_or, Bool.not_true, Bool.not_false, Nat.lt_irrefl]
  | g :: r, rs, i, k, gb, hR, hd, hi, hl, hk => by
    obtain ⟨k, rfl⟩ : ∃ m, k = m + 1 := ⟨k - 1, by simp at hk; omega⟩
    obtain ⟨hg0, hgs⟩ := hR g (by simp)
    cases g with
    | nil => exact absurd rfl hg0
    | cons x g =>
      have hd0 : inp.drop i = (.obj a :: (x :: g).map D.str) ++ jR a r := by rw [hd]; simp [jR]
      have hx := drop_lt hd0
      have hlen := drop_len hd0 (by omega)
      rw [List.length_append, List.length_cons, List.length_map] at hlen
      have hq : inp.drop (i + 1 + (x :: g).length) = jR a r := by
        have := drop_app hd0
        rw [List.length_cons, List.length_map] at this
        rw [← this]; congr 1; omega
      obtain ⟨gb1, e1⟩ := jTurn (Φ := Φ) (gb := gb) (rs := rs) N hn hb hd hgs (by omega) (by simp at hl; omega)
      have hm : (out1 (x :: g) r : List (List Nat)).length ≤ 2 := by cases r <;> simp [out1]
      obtain ⟨gb2, e2⟩ := jOuter N hn hb hnN r (rs ++ out1 (x :: g) r) (i + 1 + (x :: g).length) k gb1 (fun g hg => hR g (by simp [hg])) hq (by omega) (by rw [List.length_append]; simp only [List.length_cons] at hl; omega) (by simp at hk; omega)
      refine ⟨gb2, (loopW_nxt ?_ e1).trans ?_⟩
      · unfold stJ
        have hin : i < n := by omega
        simp only [rE, List.isEmpty_nil, List.isEmpty_cons, Nat.reduceEqDiff, Nat.zero_le, beq_self_eq_true, Nat.reduceAdd, List.length_cons, List.length_nil, List.getElem?_cons_zero, List.getElem?_cons_succ, Option.getD_some, ↓reduceIte, and_self, true_and, and_true, ne_eq, not_false_eq_true, Nat.reduceLT, Nat.reduceLeDiff, decide_true, decide_false, Bool.or_false, Bool.false_or, Bool.not_true, Bool.not_false, hin]
      · rw [e2, outs_cons, List.append_assoc]

noncomputable def txtOf (F : List (List Nat)) (R : List (List (List Nat))) : List Nat := [40, 63, 115, 58] ++ (F ++ outs R).flatten ++ [41, 92, 90]

theorem join_parts_ok (k : Nat) (F : List (List Nat)) (R : List (List (List Nat))) (hR : ∀ g ∈ R, g ≠ [] ∧ (g.map List.length).sum ≤ 1000000) (hi : (jIn a F R).length ≤ 1000) (hS : ((F ++ outs R).map List.length).sum ≤ 1000000) :
    Φs (k + 1) "_join_translated_parts" [.list (jIn a F R), .obj a] = some (.str (txtOf F R)) := by
  rw [phi_join]
  refine run_fnE 5 rfl ?_
  have hlen : (jIn a F R).length = F.length + (jR a R).length := by unfold jIn jR; rw [List.length_append, List.length_map]
  have hRl : R.length ≤ (jR a R).length := by
    clear hR hi hS hlen
    induction R with
    | nil => simp
    | cons g r ih =>
      have : jR a (g :: r) = (.obj a :: g.map D.str) ++ jR a r := by simp [jR]
      rw [this, List.length_append]; simp; omega
  have e1 := j1 (Φ := Φs k) (inp := jIn a F R) (a := a) (n := (jIn a F R).length) 1991 rfl (by omega) (stop_jR R) .u F [] 0 1996 rfl (by omega) (by simp; omega) (by omega)
  have hd : (jIn a F R).drop (0 + F.length) = jR a R := by
    have : (jIn a F R).drop 0 = F.map D.str ++ jR a R := rfl
    have := drop_app this
    rwa [List.length_map] at this
  obtain ⟨gb, e2⟩ := jOuter (Φ := Φs k) (inp := jIn a F R) (a := a) (n := (jIn a F R).length) 1975 rfl (by omega) (by omega) R ([] ++ F) (0 + F.length) 1995 .u hR hd (by omega) (by simp; omega) (by omega)
  rw [List.nil_append] at e1 e2
  have jk := join_ok (ls := F ++ outs R) (by omega)
  have hF : (F ++ outs R).flatten.length ≤ 1000000 := by rw [List.length_flatten]; exact hS
  have hl2 : (jIn a F R).length ≤ 16777216 := by omega
  have h6 : 0 + 1 + 1 + 1 + 1 + (F ++ outs R).flatten.length + (0 + 1 + 1 + 1) ≤ 16777216 := by omega
  unfold txtOf
  generalize jIn a F R = inp at *
  generalize (F ++ outs R).flatten = T at *
  generalize 0 + F.length = i at *
  refine retE (σ := ?_) ?_
  rotate_left
  · rw [code_join_eq]
    have gu : Gb.u.s = .un := rfl
    unfold stJ at e1 e2
    simp only [gu, List.map_nil] at e1 e2
    simp only [List.replicate, List.map_cons, List.map_nil, List.cons_append, List.nil_append]
    simp only [rE, List.isEmpty_nil, List.isEmpty_cons, Nat.reduceEqDiff, Nat.zero_le, beq_self_eq_true, Nat.reduceAdd, List.length_cons, List.length_nil, List.getElem?_cons_zero, List.getElem?_cons_succ, Option.getD_some, ↓reduceIte, and_self, true_and, and_true, ne_eq, not_false_eq_true, Nat.reduceLT, Nat.reduceLeDiff, decide_true, decide_false, Bool.or_false, Bool.false_or, Bool.not_true, Bool.not_false, rR, putL, List.map_cons, List.map_nil, List.set_cons_zero, List.set_cons_succ, hl2, h6, e1, e2, jk, List.append_assoc, List.cons_append, List.nil_append]
    rfl
end
end Mine
end

/-! U10 -/
section
open PySem PySem.W PyProof.Rows
set_option maxRecDepth 100000
set_option linter.unusedSimpArgs false
namespace Mine

theorem eq_nil {l : List D} : cmpD .Eq (.list l) (.list []) = some (.bool l.isEmpty) := by
  rw [eq_list]
  cases l with
  | nil => rfl
  | cons => simp [yesO]

section
variable {text : List Nat} {p : Nat}

theorem sign_plain (k : Nat) {c : Nat} (h : text[p]? = some c) (hc : ¬ c = 92) (hb : p < 4611686018427387904) : Φs (k + 1) "_law_sign" [.str text, .int (p : Int)] = some (.tup [.str [c], .int ((p + 1 : Nat) : Int)]) := by
  rw [phi_sign]
  refine run_fnE 0 rfl (retE (σ := ?_) ?_)
  rotate_left
  · unfold code_law_sign
    simp only [List.replicate, List.map_cons, List.map_nil, List.cons_append, List.nil_append]
    simp only [rE, List.isEmpty_nil, List.isEmpty_cons, Nat.reduceEqDiff, Nat.zero_le, beq_self_eq_true, Nat.reduceAdd, List.length_cons, List.length_nil, List.getElem?_cons_zero, List.getElem?_cons_succ, Option.getD_some, ↓reduceIte, and_self, true_and, and_true, ne_eq, not_false_eq_true, Nat.reduceLT, Nat.reduceLeDiff, decide_true, decide_false, Bool.or_false, Bool.false_or, Bool.not_true, Bool.not_false, rR, putL, List.map_cons, List.map_nil, List.set_cons_zero, List.set_cons_succ, idx_str' h hb, one_ne hc]
    rfl
theorem sign_esc (k : Nat) {c : Nat} (h : text[p]? = some 92) (h2 : text[p + 1]? = some c) (hb : p + 1 < 4611686018427387904) : Φs (k + 1) "_law_sign" [.str text, .int (p : Int)] = some (.tup [.str [c], .int ((p + 2 : Nat) : Int)]) := by
  rw [phi_sign]
  refine run_fnE 0 rfl (retE (σ := ?_) ?_)
  rotate_left
  · unfold code_law_sign
    simp only [List.replicate, List.map_cons, List.map_nil, List.cons_append, List.nil_append]
    simp only [rE, List.isEmpty_nil, List.isEmpty_cons, Nat.reduceEqDiff, Nat.zero_le, beq_self_eq_true, Nat.reduceAdd, List.length_cons, List.length_nil, List.getElem?_cons_zero, List.getElem?_cons_succ, Option.getD_some, ↓reduceIte, and_self, true_and, and_true, ne_eq, not_false_eq_true, Nat.reduceLT, Nat.reduceLeDiff, decide_true, decide_false, Bool.or_false, Bool.false_or, Bool.not_true, Bool.not_false, rR, putL, List.map_cons, List.map_nil, List.set_cons_zero, List.set_cons_succ, idx_str' h (by omega), idx_str' h2 hb]
    rfl

noncomputable def qIn : List S := [.unp2 5 1 (.call2 "_law_sign" (.var 0) (.var 1)),
  .set 6 (.var 5),
  .ife (.and (.cmp .Eq (.idx (.var 0) (.var 1)) (.str [45])) (.cmp .NotEq (.idx (.var 0) (.bin .Add (.var 1) (.int (1)))) (.str [93]))) [.unp2 6 1 (.call2 "_law_sign" (.var 0) (.bin .Add (.var 1) (.int (1))))] [],
  .app 3 (.tup2 (.var 5) (.var 6))]
noncomputable def qT : E := .or (.cmp .Eq (.var 3) .lst0) (.cmp .NotEq (.idx (.var 0) (.var 1)) (.str [93]))
noncomputable def qBody : List S := [.own0 3,
  .set 4 (.cmp .Eq (.slc (.var 0) (.var 1) (.bin .Add (.var 1) (.int (2)))) (.str [91, 94])),
  .set 1 (.bin .Add (.var 1) (.ite (.var 4) (.int (2)) (.int (1)))),
  .ife (.cmp .Eq (.idx (.var 0) (.bin .Sub (.var 1) (.int (1)))) (.str [46])) [.app 3 (.tup2 (.chr (.int (0))) (.chr (.int (255))))] [.whl qT qIn, .set 1 (.bin .Add (.var 1) (.int (1)))],
  .frz 3,
  .app 2 (.tup2 (.var 4) (.var 3))]
noncomputable def qOut : E := .and (.cmp .In (.idx (.var 0) (.var 1)) (.str [91, 46])) (.cmp .NotEq (.slc (.var 0) (.var 1) (.bin .Add (.var 1) (.int (2)))) (.str [46, 42]))
theorem code_sets_eq : code_law_sets = [.own0 2, .whl qOut qBody, .frz 2, .ret (.tup2 (.var 2) (.var 1))] := rfl

noncomputable def rg (x y : Nat) : D := .tup [.str [x], .str [y]]
noncomputable def stQ (text : List Nat) (p : Nat) (sets : List D) (ranges : List D) (b : Bool) (g5 g6 : SV) : List SV := [.val (.str text), .val (.int (p : Int)), .own sets, .own ranges, .val (.bool b), g5, g6]

variable {k : Nat} {sets ranges : List D} {b : Bool} {g5 g6 : Gb}

theorem q_end (hr : ranges.isEmpty = false) (h : text[p]? = some 93) (hb : p < 4611686018427387904) : evm (Φs k) .test qT (mk (stQ text p sets ranges b g5.s g6.s)) = some (.bool false) := by
  unfold qT stQ
  simp only [rE, List.isEmpty_nil, List.isEmpty_cons, Nat.reduceEqDiff, Nat.zero_le, beq_self_eq_true, Nat.reduceAdd, List.length_cons, List.length_nil, List.getElem?_cons_zero, List.getElem?_cons_succ, Option.getD_some, ↓reduceIte, and_self, true_and, and_true, ne_eq, not_false_eq_true, Nat.reduceLT, Nat.reduceLeDiff, decide_true, decide_false, Bool.or_false, Bool.false_or, Bool.not_true, Bool.not_false, eq_nil, hr, idx_str' h hb, bne_self_eq_false]
theorem q_go {c : Nat} (h : text[p]? = some c) (hc : ranges.isEmpty = true ∨ ¬ c = 93) (hb : p < 4611686018427387904) : evm (Φs k) .test qT (mk (stQ text p sets ranges b g5.s g6.s)) = some (.bool true) := by
  unfold qT stQ
  rcases hc with hr | hc
  · simp only [rE, List.isEmpty_nil, List.isEmpty_cons, Nat.reduceEqDiff, Nat.zero_le, beq_self_eq_true, Nat.reduceAdd, List.length_cons, List.length_nil, List.getElem?_cons_zero, List.getElem?_cons_succ, Option.getD_some, ↓reduceIte, and_self, true_and, and_true, ne_eq, not_false_eq_true, Nat.reduceLT, Nat.reduceLeDiff, decide_true, decide_false, Bool.or_false, Bool.false_or, Bool.not_true, Bool.not_false, eq_nil, hr, idx_str' h hb]
  · have : (([c] : List Nat) != [93]) = true := by simp [hc]
    simp only [rE, List.isEmpty_nil, List.isEmpty_cons, Nat.reduceEqDiff, Nat.zero_le, beq_self_eq_true, Nat.reduceAdd, List.length_cons, List.length_nil, List.getElem?_cons_zero, List.getElem?_cons_succ, Option.getD_some, ↓reduceIte, and_self, true_and, and_true, ne_eq, not_false_eq_true, Nat.reduceLT, Nat.reduceLeDiff, decide_true, decide_false, Bool.or_false, Bool.false_or, Bool.not_true, Bool.not_false, eq_nil, idx_str' h hb, this, orT_b, Bool.or_true]

theorem q_plain (N : Nat) {c d : Nat} {r : List Nat} (hd : text.drop p = c :: d :: r) (hc : ¬ c = 92) (hdd : ¬ d = 45) (ht : text.length ≤ 1000000) (hl : ranges.length ≤ 1000000) :
    run (Φs (k + 1)) (N + 10) qIn (mk (stQ text p sets ranges b g5.s g6.s)) = some (mk (stQ text (p + 1) sets (ranges ++ [rg c c]) b (Gb.v (.str [c])).s (Gb.v (.str [c])).s), .nxt) := by
  have d1 := drop_tail hd
  have hx := drop_lt d1
  have hl' : ranges.length ≤ 16777216 := by omega
  unfold qIn stQ rg
  simp only [rE, List.isEmpty_nil, List.isEmpty_cons, Nat.reduceEqDiff, Nat.zero_le, beq_self_eq_true, Nat.reduceAdd, List.length_cons, List.length_nil, List.getElem?_cons_zero, List.getElem?_cons_succ, Option.getD_some, ↓reduceIte, and_self, true_and, and_true, ne_eq, not_false_eq_true, Nat.reduceLT, Nat.reduceLeDiff, decide_true, decide_false, Bool.or_false, Bool.false_or, Bool.not_true, Bool.not_false, rR, putL, List.map_cons, List.map_nil, List.set_cons_zero, List.set_cons_succ, sign_plain k (drop_get hd) hc (by omega), idx_str' (drop_get d1) (by omega), one_ne hdd, hl', Gb.s]
theorem q_esc (N : Nat) {c d : Nat} {r : List Nat} (hd : text.drop p = 92 :: c :: d :: r) (hdd : ¬ d = 45) (ht : text.length ≤ 1000000) (hl : ranges.length ≤ 1000000) :
    run (Φs (k + 1)) (N + 10) qIn (mk (stQ text p sets ranges b g5.s g6.s)) = some (mk (stQ text (p + 2) sets (ranges ++ [rg c c]) b (Gb.v (.str [c])).s (Gb.v (.str [c])).s), .nxt) := by
  have d1 := drop_tail hd
  have d2 : text.drop (p + 2) = d :: r := drop_tail d1
  have hx := drop_lt d2
  have hl' : ranges.length ≤ 16777216 := by omega
  unfold qIn stQ rg
  simp only [rE, List.isEmpty_nil, List.isEmpty_cons, Nat.reduceEqDiff, Nat.zero_le, beq_self_eq_true, Nat.reduceAdd, List.length_cons, List.length_nil, List.getElem?_cons_zero, List.getElem?_cons_succ, Option.getD_some, ↓reduceIte, and_self, true_and, and_true, ne_eq, not_false_eq_true, Nat.reduceLT, Nat.reduceLeDiff, decide_true, decide_false, Bool.or_false, Bool.false_or, Bool.not_true, Bool.not_false, rR, putL, List.map_cons, List.map_nil, List.set_cons_zero, List.set_cons_succ, sign_esc k (drop_get hd) (drop_get d1) (by omega), idx_str' (drop_get d2) (by omega), one_ne hdd, hl', Gb.s]
theorem q_rng (N : Nat) {c e : Nat} {r : List Nat} (hd : text.drop p = c :: 45 :: e :: r) (hc : ¬ c = 92) (he : ¬ e = 93) (he2 : ¬ e = 92) (ht : text.length ≤ 1000000) (hl : ranges.length ≤ 1000000) :
    run (Φs (k + 1)) (N + 10) qIn (mk (stQ text p sets ranges b g5.s g6.s)) = some (mk (stQ text (p + 3) sets (ranges ++ [rg c e]) b (Gb.v (.str [c])).s (Gb.v (.str [e])).s), .nxt) := by
  have d1 := drop_tail hd
  have d2 := drop_tail d1
  have hx := drop_lt d2
  have hl' : ranges.length ≤ 16777216 := by omega
  have hne : (([e] : List Nat) != [93]) = true := by simp [he]
  unfold qIn stQ rg
  simp only [rE, List.isEmpty_nil, List.isEmpty_cons, Nat.reduceEqDiff, Nat.zero_le, beq_self_eq_true, Nat.reduceAdd, List.length_cons, List.length_nil, List.getElem?_cons_zero, List.getElem?_cons_succ, Option.getD_some, ↓reduceIte, and_self, true_and, and_true, ne_eq, not_false_eq_true, Nat.reduceLT, Nat.reduceLeDiff, decide_true, decide_false, Bool.or_false, Bool.false_or, Bool.not_true, Bool.not_false, rR, putL, List.map_cons, List.map_nil, List.set_cons_zero, List.set_cons_succ, sign_plain k (drop_get hd) hc (by omega), sign_plain k (drop_get d2) he2 (by omega), idx_str' (drop_get d1) (by omega), idx_str' (drop_get d2) (by omega), hne, hl', Gb.s]
end
end Mine
end

/-! U11 -/
section
open PySem PySem.W PyProof.Rows
set_option maxRecDepth 100000
set_option linter.unusedSimpArgs false
namespace Mine

noncomputable def rgsO (o : Nat) : List D := if o = 93 then [rg 93 93, rg 221 221] else [rg (o + 128) (o + 128), rg o o]
noncomputable def rgsI : Itm → List D
  | .star => []
  | .set (some g) (some e) _ => rgsO (octOf g e)
  | .set (some _) none _ => []
  | .set none none _ => [rg 0 255]
  | .set none (some true) _ => [rg 0 63, rg 128 191]
  | .set none (some false) _ => [rg 64 127, rg 192 255]
noncomputable def barI : Itm → Bool
  | .star => false
  | .set _ _ b => b
noncomputable def pc (it : Itm) : D := .tup [.bool (barI it), .list (rgsI it)]

section
variable {text : List Nat} {p k : Nat} {sets ranges : List D} {b : Bool} {g5 g6 : Gb}

theorem q_two {p1 p2 : Nat} {r1 r2 : D} {a1 b1 a2 b2 : Gb} (N M : Nat) {c1 c2 : Nat} (h1 : text[p]? = some c1) (h2 : text[p1]? = some c2) (hc2 : ¬ c2 = 93) (h3 : text[p2]? = some 93) (ht : text.length ≤ 1000000)
    (t1 : run (Φs (k + 1)) (N + 10) qIn (mk (stQ text p sets [] b g5.s g6.s)) = some (mk (stQ text p1 sets ([] ++ [r1]) b a1.s b1.s), .nxt))
    (t2 : run (Φs (k + 1)) (N + 10) qIn (mk (stQ text p1 sets ([] ++ [r1]) b a1.s b1.s)) = some (mk (stQ text p2 sets ([] ++ [r1] ++ [r2]) b a2.s b2.s), .nxt)) :
    loopW (evm (Φs (k + 1)) .test qT) (run (Φs (k + 1)) (N + 10) qIn) (M + 3) (mk (stQ text p sets [] b g5.s g6.s)) = some (mk (stQ text p2 sets [r1, r2] b a2.s b2.s), .nxt) := by
  have x1 := (List.getElem?_eq_some_iff.mp h1).1
  have x2 := (List.getElem?_eq_some_iff.mp h2).1
  have x3 := (List.getElem?_eq_some_iff.mp h3).1
  exact (loopW_nxt (q_go h1 (.inl rfl) (by omega)) t1).trans ((loopW_nxt (q_go h2 (.inr hc2) (by omega)) t2).trans (loopW_end (q_end rfl h3 (by omega))))

theorem inner_ok (N M : Nat) {o : Nat} {suf : List Nat} (ho : o < 128) (hd : text.drop p = bodyT o ++ 93 :: suf) (ht : text.length ≤ 1000000) :
    ∃ h5 h6 : Gb, loopW (evm (Φs (k + 1)) .test qT) (run (Φs (k + 1)) (N + 10) qIn) (M + 3) (mk (stQ text p sets [] b g5.s g6.s)) = some (mk (stQ text (p + (bodyT o).length) sets (rgsO o) b h5.s h6.s), .nxt) := by
  unfold bodyT rgsO at *
  by_cases h93 : o = 93
  · simp only [h93, if_true] at hd ⊢
    have d1 := drop_tail hd
    have d2 := drop_tail d1
    exact ⟨_, _, q_two N M (drop_get hd) (drop_get d1) (by decide) (drop_get d2) ht (q_plain N hd (by decide) (by decide) ht (by simp)) (q_plain N d1 (by decide) (by decide) ht (by simp))⟩
  · simp only [h93, if_false] at hd ⊢
    by_cases h45 : o = 45
    · simp only [h45, if_true] at hd ⊢
      have d1 := drop_tail hd
      have d2 := drop_tail d1
      have d3 := drop_tail d2
      exact ⟨_, _, q_two N M (drop_get hd) (drop_get d1) (by decide) (drop_get d3) ht (q_plain N hd (by decide) (by decide) ht (by simp)) (q_esc N d1 (by decide) ht (by simp))⟩
    · simp only [h45, if_false] at hd ⊢
      by_cases he : o = 92 ∨ o = 38 ∨ o = 126 ∨ o = 124
      · simp only [he, if_true] at hd ⊢
        have d1 := drop_tail hd
        have d2 := drop_tail d1
        have d3 := drop_tail d2
        exact ⟨_, _, q_two N M (drop_get hd) (drop_get d1) (by decide) (drop_get d3) ht (q_plain N hd (by omega) (by decide) ht (by simp)) (q_esc N d1 (by decide) ht (by simp))⟩
      · simp only [he, if_false] at hd ⊢
        have d1 := drop_tail hd
        have d2 := drop_tail d1
        exact ⟨_, _, q_two N M (drop_get hd) (drop_get d1) (by omega) (drop_get d2) ht (q_plain N hd (by omega) (by omega) ht (by simp)) (q_plain N d1 (by omega) (by decide) ht (by simp))⟩
theorem inner_rng (N M : Nat) {x0 x1 x2 x3 : Nat} {suf : List Nat} (hd : text.drop p = [x0, 45, x1, x2, 45, x3] ++ 93 :: suf) (h0 : ¬ x0 = 92) (h1 : ¬ x1 = 93) (h1' : ¬ x1 = 92) (h2 : ¬ x2 = 93) (h2' : ¬ x2 = 92) (h3 : ¬ x3 = 93) (h3' : ¬ x3 = 92) (ht : text.length ≤ 1000000) :
    ∃ h5 h6 : Gb, loopW (evm (Φs (k + 1)) .test qT) (run (Φs (k + 1)) (N + 10) qIn) (M + 3) (mk (stQ text p sets [] b g5.s g6.s)) = some (mk (stQ text (p + 6) sets [rg x0 x1, rg x2 x3] b h5.s h6.s), .nxt) := by
  have d1 := drop_tail hd
  have d2 := drop_tail d1
  have d3 : text.drop (p + 3) = _ := drop_tail d2
  have d4 := drop_tail d3
  have d5 := drop_tail d4
  have d6 := drop_tail d5
  exact ⟨_, _, q_two N M (drop_get hd) (drop_get d3) h2 (drop_get d6) ht (q_rng N hd h0 h1 h1' ht (by simp)) (q_rng N d3 h2' h3 h3' ht (by simp))⟩

/-- a turn of the outer loop -/
noncomputable def QTurn (k N : Nat) (text : List Nat) (p : Nat) (sets : List D) (g3 g4 g5 g6 : Gb) (sets' : List D) (p' : Nat) : Prop :=
  ∃ h3 h4 h5 h6 : Gb, run (Φs (k + 1)) (N + 40) qBody (mk [.val (.str text), .val (.int (p : Int)), .own sets, g3.s, g4.s, g5.s, g6.s]) = some (mk [.val (.str text), .val (.int (p' : Int)), .own sets', h3.s, h4.s, h5.s, h6.s], .nxt)

theorem q_any {g3 g4 g5 g6 : Gb} (N : Nat) {c : Nat} {suf : List Nat} (hd : text.drop p = 46 :: c :: suf) (ht : text.length ≤ 1000000) (hl : sets.length ≤ 1000000) :
    QTurn k N text p sets g3 g4 g5 g6 (sets ++ [.tup [.bool false, .list [rg 0 255]]]) (p + 1) := by
  have d1 := drop_tail hd
  have hx := drop_lt d1
  have hcut : (text.take (p + 2)).drop p = [46, c] := drop_cut (p := [46, c]) hd
  have e1 : (([46, c] : List Nat) == [91, 94]) = false := by simp
  have hl' : sets.length ≤ 16777216 := by omega
  have ht' : text.length ≤ 16777216 := by omega
  refine ⟨.v (.list [rg 0 255]), .v (.bool false), g5, g6, ?_⟩
  unfold qBody rg
  simp only [rE, List.isEmpty_nil, List.isEmpty_cons, Nat.reduceEqDiff, Nat.zero_le, beq_self_eq_true, Nat.reduceAdd, List.length_cons, List.length_nil, List.getElem?_cons_zero, List.getElem?_cons_succ, Option.getD_some, ↓reduceIte, and_self, true_and, and_true, ne_eq, not_false_eq_true, Nat.reduceLT, Nat.reduceLeDiff, decide_true, decide_false, Bool.or_false, Bool.false_or, Bool.not_true, Bool.not_false, rR, putL, List.map_cons, List.map_nil, List.set_cons_zero, List.set_cons_succ, hcut, e1, Nat.add_sub_cancel, idx_str' (drop_get hd) (by omega), hl', ht', List.nil_append]
  rfl

theorem q_brk {rr : List D} {x y : Nat} {h5 h6 : Gb} {g3 g4 g5 g6 : Gb} {w suf : List Nat} (N : Nat) (hw : (if b then [91, 94] else [91]) = w) (hd : text.drop p = w ++ x :: y :: suf) (hx94 : b = false → ¬ x = 94) (ht : text.length ≤ 1000000) (hl : sets.length ≤ 1000000) {q : Nat}
    (H : loopW (evm (Φs (k + 1)) .test qT) (run (Φs (k + 1)) (N + 35) qIn) (N + 35) (mk (stQ text (p + w.length) sets [] b g5.s g6.s)) = some (mk (stQ text q sets rr b h5.s h6.s), .nxt)) :
    QTurn k N text p sets g3 g4 g5 g6 (sets ++ [.tup [.bool b, .list rr]]) (q + 1) := by
  have hl' : sets.length ≤ 16777216 := by omega
  have ht' : text.length ≤ 16777216 := by omega
  have e3 : p + 2 - 1 = p + 1 := by omega
  refine ⟨.v (.list rr), .v (.bool b), h5, h6, ?_⟩
  cases b
  · have hd : text.drop p = 91 :: x :: y :: suf := by rw [hd, ← hw]; rfl
    have d1 := drop_tail hd
    have hx := drop_lt d1
    have hcut : (text.take (p + 2)).drop p = [91, x] := drop_cut (p := [91, x]) hd
    have e1 : (([91, x] : List Nat) == [91, 94]) = false := by simp [hx94 rfl]
    subst hw
    simp only [Bool.false_eq_true, if_false, List.length_singleton] at H
    unfold qBody
    unfold stQ at H
    simp only [rE, List.isEmpty_nil, List.isEmpty_cons, Nat.reduceEqDiff, Nat.zero_le, beq_self_eq_true, Nat.reduceAdd, List.length_cons, List.length_nil, List.getElem?_cons_zero, List.getElem?_cons_succ, Option.getD_some, ↓reduceIte, and_self, true_and, and_true, ne_eq, not_false_eq_true, Nat.reduceLT, Nat.reduceLeDiff, decide_true, decide_false, Bool.or_false, Bool.false_or, Bool.not_true, Bool.not_false, rR, putL, List.map_cons, List.map_nil, List.set_cons_zero, List.set_cons_succ, hcut, e1, Nat.add_sub_cancel, idx_str' (drop_get hd) (by omega), one_ne (show ¬ 91 = 46 by decide), hl', ht', H]
    rfl
  · have hd : text.drop p = 91 :: 94 :: x :: y :: suf := by rw [hd, ← hw]; rfl
    have d1 := drop_tail hd
    have hx := drop_lt d1
    have hcut : (text.take (p + 2)).drop p = [91, 94] := drop_cut (p := [91, 94]) hd
    subst hw
    simp only [if_true, List.length_cons, List.length_nil, Nat.zero_add, Nat.reduceAdd] at H
    unfold qBody
    unfold stQ at H
    simp only [rE, List.isEmpty_nil, List.isEmpty_cons, Nat.reduceEqDiff, Nat.zero_le, beq_self_eq_true, Nat.reduceAdd, List.length_cons, List.length_nil, List.getElem?_cons_zero, List.getElem?_cons_succ, Option.getD_some, ↓reduceIte, and_self, true_and, and_true, ne_eq, not_false_eq_true, Nat.reduceLT, Nat.reduceLeDiff, decide_true, decide_false, Bool.or_false, Bool.false_or, Bool.not_true, Bool.not_false, rR, putL, List.map_cons, List.map_nil, List.set_cons_zero, List.set_cons_succ, hcut, e3, idx_str' (drop_get d1) (by omega), one_ne (show ¬ 94 = 46 by decide), hl', ht', H]
    rfl

theorem bodyT_two {o : Nat} : ∃ x y r, bodyT o = x :: y :: r ∧ ¬ x = 94 := by
  unfold bodyT
  split
  · exact ⟨_, _, _, rfl, by decide⟩
  · split
    · exact ⟨_, _, _, rfl, by decide⟩
    · split <;> exact ⟨_, _, _, rfl, by omega⟩

theorem q_item {g3 g4 g5 g6 : Gb} (N : Nat) {it : Itm} {c : Nat} {suf : List Nat} (ok : okI it = true) (hs : it ≠ .star) (hd : text.drop p = tx it ++ c :: suf) (ht : text.length ≤ 1000000) (hl : sets.length ≤ 1000000) :
    QTurn k N text p sets g3 g4 g5 g6 (sets ++ [pc it]) (p + (tx it).length) := by
  rcases it with _ | ⟨_ | g, _ | e, b⟩
  · exact absurd rfl hs
  · cases b
    · exact q_any N hd ht hl
    · cases ok
  · cases b
    · cases e
      · have d1 := drop_tail hd
        obtain ⟨h5, h6, H⟩ := inner_rng (k := k) (sets := sets) (b := false) (g5 := g5) (g6 := g6) (N + 25) (N + 32) d1 (by decide) (by decide) (by decide) (by decide) (by decide) (by decide) (by decide) ht
        exact q_brk (h5 := h5) (h6 := h6) (x := 64) (y := 45) N rfl hd (fun _ => by decide) ht hl H
      · have d1 := drop_tail hd
        obtain ⟨h5, h6, H⟩ := inner_rng (k := k) (sets := sets) (b := false) (g5 := g5) (g6 := g6) (N + 25) (N + 32) d1 (by decide) (by decide) (by decide) (by decide) (by decide) (by decide) (by decide) ht
        exact q_brk (h5 := h5) (h6 := h6) (x := 0) (y := 45) N rfl hd (fun _ => by decide) ht hl H
    · cases ok
  · cases ok
  · have hg : g < 64 := of_decide_eq_true ok
    have ho : octOf g e < 128 := by unfold octOf; split <;> omega
    have htx : tx (.set (some g) (some e) b) = (if b then [91, 94] else [91]) ++ (bodyT (octOf g e) ++ [93]) := by
      cases b <;> simp [tx]
    rw [htx, List.append_assoc] at hd
    have d1 := drop_app hd
    rw [List.append_assoc] at d1
    obtain ⟨h5, h6, H⟩ := inner_ok (k := k) (sets := sets) (b := b) (g5 := g5) (g6 := g6) (N + 25) (N + 32) ho d1 ht
    obtain ⟨x, y, r, hb, hx⟩ := bodyT_two (o := octOf g e)
    have hd2 : text.drop p = (if b then [91, 94] else [91]) ++ x :: y :: (r ++ 93 :: (c :: suf)) := by
      rw [hd, hb]; simp
    have hlen : p + (tx (.set (some g) (some e) b)).length = p + (if b then [91, 94] else [91] : List Nat).length + (bodyT (octOf g e)).length + 1 := by
      rw [htx, List.length_append, List.length_append, List.length_singleton]; omega
    rw [hlen]
    exact q_brk (h5 := h5) (h6 := h6) N rfl hd2 (fun _ => hx) ht hl H
end
end Mine
end

/-! U12 -/
section
open PySem PySem.W PyProof.Rows
set_option maxRecDepth 100000
set_option linter.unusedSimpArgs false
namespace Mine

/-- what stands behind a run of sets -/
noncomputable def EndT (t : List Nat) : Prop := (∃ r, t = 40 :: r) ∨ (∃ r, t = 41 :: r) ∨ (∃ r, t = 46 :: 42 :: r)
noncomputable def okS (its : List Itm) : Prop := ∀ it ∈ its, okI it = true ∧ it ≠ .star
noncomputable def cat (its : List Itm) : List Nat := (its.map tx).flatten

theorem tx_head {it : Itm} (ok : okI it = true) (hs : it ≠ .star) : tx it = [46] ∨ ∃ y r, tx it = 91 :: y :: r := by
  rcases it with _ | ⟨_ | g, _ | e, b⟩
  · exact absurd rfl hs
  · exact .inl rfl
  · cases e <;> exact .inr ⟨_, _, rfl⟩
  · cases ok
  · obtain ⟨x, y, r, hb, hx⟩ := bodyT_two (o := octOf g e)
    refine .inr ?_
    cases b
    · exact ⟨x, y :: r ++ [93], by simp [tx, hb]⟩
    · exact ⟨94, x :: y :: r ++ [93], by simp [tx, hb]⟩
theorem cat_head {its : List Itm} {t : List Nat} (ok : okS its) (he : EndT t) : ∃ c r, cat its ++ t = c :: r ∧ ¬ c = 42 := by
  cases its with
  | nil =>
    rcases he with ⟨r, rfl⟩ | ⟨r, rfl⟩ | ⟨r, rfl⟩
    · exact ⟨40, r, rfl, by decide⟩
    · exact ⟨41, r, rfl, by decide⟩
    · exact ⟨46, _, rfl, by decide⟩
  | cons it its =>
    obtain ⟨h1, h2⟩ := ok it (by simp)
    rcases tx_head h1 h2 with h | ⟨y, r, h⟩
    · exact ⟨46, cat its ++ t, by simp [cat, h], by decide⟩
    · exact ⟨91, y :: r ++ (cat its ++ t), by simp [cat, h], by decide⟩

section
variable {text : List Nat} {p k : Nat} {sets ranges : List D} {b : Bool} {g3 g4 g5 g6 : Gb}

theorem in91 : inStr [91] [91, 46] = true := by decide +kernel
theorem in46 : inStr [46] [91, 46] = true := by decide +kernel
theorem in40 : inStr [40] [91, 46] = false := by decide +kernel
theorem in41 : inStr [41] [91, 46] = false := by decide +kernel

theorem o_go {it : Itm} {c : Nat} {suf : List Nat} (ok : okI it = true) (hs : it ≠ .star) (hd : text.drop p = tx it ++ c :: suf) (hc : ¬ c = 42) (ht : text.length ≤ 1000000) :
    evm (Φs (k + 1)) .test qOut (mk [.val (.str text), .val (.int (p : Int)), .own sets, g3.s, g4.s, g5.s, g6.s]) = some (.bool true) := by
  have ht' : text.length ≤ 16777216 := by omega
  unfold qOut
  rcases tx_head ok hs with h | ⟨y, r, h⟩
  · rw [h] at hd
    have hx := drop_lt hd
    have hcut : (text.take (p + 2)).drop p = [46, c] := drop_cut (p := [46, c]) hd
    have e1 : (([46, c] : List Nat) != [46, 42]) = true := by simp [hc]
    simp only [rE, List.isEmpty_nil, List.isEmpty_cons, Nat.reduceEqDiff, Nat.zero_le, beq_self_eq_true, Nat.reduceAdd, List.length_cons, List.length_nil, List.getElem?_cons_zero, List.getElem?_cons_succ, Option.getD_some, ↓reduceIte, and_self, true_and, and_true, ne_eq, not_false_eq_true, Nat.reduceLT, Nat.reduceLeDiff, decide_true, decide_false, Bool.or_false, Bool.false_or, Bool.not_true, Bool.not_false, idx_str' (drop_get hd) (by omega), in46, ht', hcut, e1]
  · rw [h] at hd
    have hx := drop_lt hd
    have hcut : (text.take (p + 2)).drop p = [91, y] := drop_cut (p := [91, y]) hd
    have e1 : (([91, y] : List Nat) != [46, 42]) = true := by simp
    simp only [rE, List.isEmpty_nil, List.isEmpty_cons, Nat.reduceEqDiff, Nat.zero_le, beq_self_eq_true, Nat.reduceAdd, List.length_cons, List.length_nil, List.getElem?_cons_zero, List.getElem?_cons_succ, Option.getD_some, ↓reduceIte, and_self, true_and, and_true, ne_eq, not_false_eq_true, Nat.reduceLT, Nat.reduceLeDiff, decide_true, decide_false, Bool.or_false, Bool.false_or, Bool.not_true, Bool.not_false, idx_str' (drop_get hd) (by omega), in91, ht', hcut, e1]
theorem o_end {t : List Nat} (he : EndT t) (hd : text.drop p = t) (ht : text.length ≤ 1000000) :
    evm (Φs (k + 1)) .test qOut (mk [.val (.str text), .val (.int (p : Int)), .own sets, g3.s, g4.s, g5.s, g6.s]) = some (.bool false) := by
  have ht' : text.length ≤ 16777216 := by omega
  unfold qOut
  rcases he with ⟨r, rfl⟩ | ⟨r, rfl⟩ | ⟨r, rfl⟩
  · have hx := drop_lt hd
    simp only [rE, List.isEmpty_nil, List.isEmpty_cons, Nat.reduceEqDiff, Nat.zero_le, beq_self_eq_true, Nat.reduceAdd, List.length_cons, List.length_nil, List.getElem?_cons_zero, List.getElem?_cons_succ, Option.getD_some, ↓reduceIte, and_self, true_and, and_true, ne_eq, not_false_eq_true, Nat.reduceLT, Nat.reduceLeDiff, decide_true, decide_false, Bool.or_false, Bool.false_or, Bool.not_true, Bool.not_false, idx_str' (drop_get hd) (by omega), in40, ht']
  · have hx := drop_lt hd
    simp only [rE, List.isEmpty_nil, List.isEmpty_cons, Nat.reduceEqDiff, Nat.zero_le, beq_self_eq_true, Nat.reduceAdd, List.length_cons, List.length_nil, List.getElem?_cons_zero, List.getElem?_cons_succ, Option.getD_some, ↓reduceIte, and_self, true_and, and_true, ne_eq, not_false_eq_true, Nat.reduceLT, Nat.reduceLeDiff, decide_true, decide_false, Bool.or_false, Bool.false_or, Bool.not_true, Bool.not_false, idx_str' (drop_get hd) (by omega), in41, ht']
  · have hx := drop_lt hd
    have hcut : (text.take (p + 2)).drop p = [46, 42] := drop_cut (p := [46, 42]) hd
    simp only [rE, List.isEmpty_nil, List.isEmpty_cons, Nat.reduceEqDiff, Nat.zero_le, beq_self_eq_true, Nat.reduceAdd, List.length_cons, List.length_nil, List.getElem?_cons_zero, List.getElem?_cons_succ, Option.getD_some, ↓reduceIte, and_self, true_and, and_true, ne_eq, not_false_eq_true, Nat.reduceLT, Nat.reduceLeDiff, decide_true, decide_false, Bool.or_false, Bool.false_or, Bool.not_true, Bool.not_false, idx_str' (drop_get hd) (by omega), in46, ht', hcut, bne_self_eq_false]

theorem o_loop (N : Nat) (ht : text.length ≤ 1000000) {t : List Nat} (he : EndT t) : ∀ (its : List Itm) (p k' : Nat) (sets : List D) (g3 g4 g5 g6 : Gb), okS its → text.drop p = cat its ++ t → sets.length + its.length ≤ 1000000 → its.length < k' →
    ∃ h3 h4 h5 h6 : Gb, loopW (evm (Φs (k + 1)) .test qOut) (run (Φs (k + 1)) (N + 40) qBody) k' (mk [.val (.str text), .val (.int (p : Int)), .own sets, g3.s, g4.s, g5.s, g6.s]) =
      some (mk [.val (.str text), .val (.int ((p + (cat its).length : Nat) : Int)), .own (sets ++ its.map pc), h3.s, h4.s, h5.s, h6.s], .nxt)
  | [], p, k', sets, g3, g4, g5, g6, ok, hd, hl, hk => by
    obtain ⟨k', rfl⟩ : ∃ m, k' = m + 1 := ⟨k' - 1, by simp at hk; omega⟩
    refine ⟨g3, g4, g5, g6, ?_⟩
    rw [loopW_end (o_end he hd ht)]
    simp [cat]
  | it :: its, p, k', sets, g3, g4, g5, g6, ok, hd, hl, hk => by
    obtain ⟨k', rfl⟩ : ∃ m, k' = m + 1 := ⟨k' - 1, by simp at hk; omega⟩
    obtain ⟨h1, h2⟩ := ok it (by simp)
    have ok' : okS its := fun x hx => ok x (by simp [hx])
    obtain ⟨c, r, hcr, hc⟩ := cat_head ok' he
    have hd' : text.drop p = tx it ++ (cat its ++ t) := by rw [hd]; simp [cat]
    have hd2 : text.drop p = tx it ++ c :: r := by rw [hd', hcr]
    obtain ⟨a3, a4, a5, a6, e1⟩ := q_item (k := k) (sets := sets) (g3 := g3) (g4 := g4) (g5 := g5) (g6 := g6) N h1 h2 hd2 ht (by simp at hl; omega)
    obtain ⟨b3, b4, b5, b6, e2⟩ := o_loop N ht he its (p + (tx it).length) k' (sets ++ [pc it]) a3 a4 a5 a6 ok' (drop_app hd') (by simp at hl ⊢; omega) (by simp at hk; omega)
    refine ⟨b3, b4, b5, b6, (loopW_nxt (o_go h1 h2 hd2 hc ht) e1).trans ?_⟩
    rw [e2]
    simp [cat, Nat.add_assoc]

theorem sets_ok {t : List Nat} (ht : text.length ≤ 1000000) (he : EndT t) (its : List Itm) (ok : okS its) (hd : text.drop p = cat its ++ t) (hl : its.length ≤ 1000) :
    Φs (k + 1 + 1) "_law_sets" [.str text, .int (p : Int)] = some (.tup [.list (its.map pc), .int ((p + (cat its).length : Nat) : Int)]) := by
  rw [phi_sets]
  refine run_fnE 5 rfl ?_
  obtain ⟨h3, h4, h5, h6, e⟩ := o_loop (k := k) 1958 ht he its p 1998 [] .u .u .u .u ok hd (by simp; omega) (by omega)
  have gu : Gb.u.s = .un := rfl
  simp only [gu, List.nil_append] at e
  generalize (its.map pc) = P at *
  generalize p + (cat its).length = q at *
  refine retE (σ := ?_) ?_
  rotate_left
  · rw [code_sets_eq]
    simp only [List.replicate, List.map_cons, List.map_nil, List.cons_append, List.nil_append]
    simp only [rE, List.isEmpty_nil, List.isEmpty_cons, Nat.reduceEqDiff, Nat.zero_le, beq_self_eq_true, Nat.reduceAdd, List.length_cons, List.length_nil, List.getElem?_cons_zero, List.getElem?_cons_succ, Option.getD_some, ↓reduceIte, and_self, true_and, and_true, ne_eq, not_false_eq_true, Nat.reduceLT, Nat.reduceLeDiff, decide_true, decide_false, Bool.or_false, Bool.false_or, Bool.not_true, Bool.not_false, rR, putL, List.map_cons, List.map_nil, List.set_cons_zero, List.set_cons_succ, e]
    rfl
end
end Mine
end

/-! U13 -/
section
open PySem PySem.W PyProof.Rows
set_option maxRecDepth 100000
set_option linter.unusedSimpArgs false
namespace Mine

noncomputable def pT : E := .cmp .Eq (.slc (.var 0) (.var 2) (.bin .Add (.var 2) (.int (6)))) (.str [40, 63, 62, 46, 42, 63])
noncomputable def pBody : List S := [.unp2 1 2 (.call2 "_law_sets" (.var 0) (.bin .Add (.var 2) (.int (6)))),
  .app 3 (.var 1),
  .ife (.or (.cmp .NotEq (.idx (.var 0) (.var 2)) (.str [41])) (.cmp .NotIn (.idx (.var 0) (.bin .Add (.var 2) (.int (1)))) (.str [40, 46]))) [.ret .lst0] [],
  .set 2 (.bin .Add (.var 2) (.int (1)))]
noncomputable def pLast : S := .ife (.cmp .Eq (.slc (.var 0) (.var 2) (.bin .Add (.var 2) (.int (2)))) (.str [46, 42])) [.unp2 1 2 (.call2 "_law_sets" (.var 0) (.bin .Add (.var 2) (.int (2)))),
  .app 3 (.var 1)] []
theorem code_pieces_eq : code_law_pieces = [.unp2 1 2 (.call2 "_law_sets" (.var 0) (.int (4))), .own1 3 (.var 1), .whl pT pBody, pLast, .frz 3,
  .ret (.ite (.and (.cmp .Eq (.slc (.var 0) .none (.int (4))) (.str [40, 63, 115, 58])) (.cmp .Eq (.slc (.var 0) (.var 2) .none) (.str [41, 92, 90]))) (.var 3) .lst0)] := rfl

noncomputable def grT (g : List Itm) : List (List Nat) := g.map tx
noncomputable def end3 : List Nat := [41, 92, 90]
noncomputable def oT (R : List (List Itm)) : List Nat := (outs (R.map grT)).flatten ++ end3
theorem oT_nil : oT [] = [41, 92, 90] := rfl
theorem oT_one {g} : oT [g] = 46 :: 42 :: (cat g ++ [41, 92, 90]) := by simp [oT, outs, grT, cat, end3]
theorem oT_cons {g g2 r} : oT (g :: g2 :: r) = 40 :: 63 :: 62 :: 46 :: 42 :: 63 :: (cat g ++ 41 :: oT (g2 :: r)) := by simp [oT, outs, grT, cat]
theorem oT_end {R} : EndT (oT R) := by
  match R with
  | [] => exact .inr (.inl ⟨_, oT_nil⟩)
  | [g] => exact .inr (.inr ⟨_, oT_one⟩)
  | g :: g2 :: r => exact .inl ⟨_, oT_cons⟩
theorem oT_head {g r} : ∃ c t, oT (g :: r) = c :: t ∧ inStr [c] [40, 46] = true := by
  cases r with
  | nil => exact ⟨46, _, oT_one, by decide +kernel⟩
  | cons g2 r => exact ⟨40, _, oT_cons, by decide +kernel⟩

noncomputable def piece (g : List Itm) : D := .list (g.map pc)

section
variable {text : List Nat} {p k : Nat}

theorem cut6 {n : Nat} : (text.take (p + n)).drop p = (text.drop p).take n := by
  rw [List.drop_take, Nat.add_sub_cancel_left]

theorem p_loop (N : Nat) (ht : text.length ≤ 1000000) : ∀ (R : List (List Itm)) (p k' : Nat) (ps : List D) (g1 : Gb), (∀ g ∈ R, okS g ∧ g.length ≤ 1000) → text.drop p = oT R → ps.length + R.length ≤ 1000000 → R.length < k' →
    ∃ (q : Nat) (R' : List (List Itm)) (h1 : Gb), loopW (evm (Φs (k + 1 + 1)) .test pT) (run (Φs (k + 1 + 1)) (N + 10) pBody) k' (mk [.val (.str text), g1.s, .val (.int (p : Int)), .own ps]) =
      some (mk [.val (.str text), h1.s, .val (.int (q : Int)), .own (ps ++ (R.dropLast.map piece))], .nxt) ∧ text.drop q = oT R' ∧ R' = R.drop (R.length - 1) ∧ q ≤ text.length
  | [], p, k', ps, g1, ok, hd, hl, hk => by
    obtain ⟨k', rfl⟩ : ∃ m, k' = m + 1 := ⟨k' - 1, by simp at hk; omega⟩
    rw [oT_nil] at hd
    have hx := drop_lt hd
    refine ⟨p, [], g1, ?_, hd, rfl, by omega⟩
    have e1 : (([41, 92, 90] : List Nat) == [40, 63, 62, 46, 42, 63]) = false := by decide
    have ht' : text.length ≤ 16777216 := by omega
    rw [loopW_end]
    · simp
    · unfold pT
      simp only [rE, List.isEmpty_nil, List.isEmpty_cons, Nat.reduceEqDiff, Nat.zero_le, beq_self_eq_true, Nat.reduceAdd, List.length_cons, List.length_nil, List.getElem?_cons_zero, List.getElem?_cons_succ, Option.getD_some, ↓reduceIte, and_self, true_and, and_true, ne_eq, not_false_eq_true, Nat.reduceLT, Nat.reduceLeDiff, decide_true, decide_false, Bool.or_false, Bool.false_or, Bool.not_true, Bool.not_false, ht', cut6, hd, List.take_succ_cons, List.take_nil, e1]
  | [g], p, k', ps, g1, ok, hd, hl, hk => by
    obtain ⟨k', rfl⟩ : ∃ m, k' = m + 1 := ⟨k' - 1, by simp at hk; omega⟩
    have hd0 := hd
    rw [oT_one] at hd
    have hx := drop_lt hd
    refine ⟨p, [g], g1, ?_, hd0, rfl, by omega⟩
    have ht' : text.length ≤ 16777216 := by omega
    rw [loopW_end]
    · simp
    · have e1 : ∀ (x y z w : Nat) (r : List Nat), ((46 :: r : List Nat) == [40, 63, 62, 46, 42, 63]) = false := fun _ _ _ _ r => by simp
      unfold pT
      simp only [rE, List.isEmpty_nil, List.isEmpty_cons, Nat.reduceEqDiff, Nat.zero_le, beq_self_eq_true, Nat.reduceAdd, List.length_cons, List.length_nil, List.getElem?_cons_zero, List.getElem?_cons_succ, Option.getD_some, ↓reduceIte, and_self, true_and, and_true, ne_eq, not_false_eq_true, Nat.reduceLT, Nat.reduceLeDiff, decide_true, decide_false, Bool.or_false, Bool.false_or, Bool.not_true, Bool.not_false, ht', cut6, hd, List.take_succ_cons, e1 0 0 0 0]
  | g :: g2 :: r, p, k', ps, g1, ok, hd, hl, hk => by
    obtain ⟨k', rfl⟩ : ∃ m, k' = m + 1 := ⟨k' - 1, by simp at hk; omega⟩
    rw [oT_cons] at hd
    have hx := drop_lt hd
    have ht' : text.length ≤ 16777216 := by omega
    have hl' : ps.length ≤ 16777216 := by simp at hl; omega
    obtain ⟨o1, o2⟩ := ok g (by simp)
    have hd6 : text.drop (p + 6) = cat g ++ 41 :: oT (g2 :: r) := drop_app (p := [40, 63, 62, 46, 42, 63]) hd
    have so := sets_ok (k := k) ht (.inr (.inl ⟨_, rfl⟩)) g o1 hd6 o2
    have hq := drop_app hd6
    have hq1 := drop_tail hq
    obtain ⟨c, t, hc, hin⟩ := oT_head (g := g2) (r := r)
    have hq2 := hq1
    rw [hc] at hq2
    have hxx := drop_lt hq2
    have e41 : (([41] : List Nat) != [41]) = false := by decide
    obtain ⟨q, R', h1, e2, c1, c2, c3⟩ := p_loop N ht (g2 :: r) (p + 6 + (cat g).length + 1) k' (ps ++ [piece g]) (.v (piece g)) (fun x hx => ok x (by simp [hx])) hq1 (by simp at hl ⊢; omega) (by simp at hk ⊢; omega)
    refine ⟨q, R', h1, (loopW_nxt (σ' := mk [.val (.str text), (Gb.v (piece g)).s, .val (.int ((p + 6 + (cat g).length + 1 : Nat) : Int)), .own (ps ++ [piece g])]) ?_ ?_).trans ?_, c1, ?_, c3⟩
    · unfold pT
      simp only [rE, List.isEmpty_nil, List.isEmpty_cons, Nat.reduceEqDiff, Nat.zero_le, beq_self_eq_true, Nat.reduceAdd, List.length_cons, List.length_nil, List.getElem?_cons_zero, List.getElem?_cons_succ, Option.getD_some, ↓reduceIte, and_self, true_and, and_true, ne_eq, not_false_eq_true, Nat.reduceLT, Nat.reduceLeDiff, decide_true, decide_false, Bool.or_false, Bool.false_or, Bool.not_true, Bool.not_false, ht', cut6, hd, List.take_succ_cons, List.take_zero]
    · unfold pBody
      simp only [rE, List.isEmpty_nil, List.isEmpty_cons, Nat.reduceEqDiff, Nat.zero_le, beq_self_eq_true, Nat.reduceAdd, List.length_cons, List.length_nil, List.getElem?_cons_zero, List.getElem?_cons_succ, Option.getD_some, ↓reduceIte, and_self, true_and, and_true, ne_eq, not_false_eq_true, Nat.reduceLT, Nat.reduceLeDiff, decide_true, decide_false, Bool.or_false, Bool.false_or, Bool.not_true, Bool.not_false, rR, putL, List.map_cons, List.map_nil, List.set_cons_zero, List.set_cons_succ, so, idx_str' (drop_get hq) (by omega), idx_str' (drop_get hq2) (by omega), e41, hin, hl']
      rfl
    · rw [e2]
      simp
    · rw [c2]; simp

noncomputable def textOf (f : List Itm) (R : List (List Itm)) : List Nat := txtOf (f.map tx) (R.map grT)
theorem textOf_eq {f R} : textOf f R = 40 :: 63 :: 115 :: 58 :: (cat f ++ oT R) := by simp [textOf, txtOf, cat, oT, end3]

theorem pieces_ok (k : Nat) (f : List Itm) (R : List (List Itm)) (of : okS f ∧ f.length ≤ 1000) (oR : ∀ g ∈ R, okS g ∧ g.length ≤ 1000) (hR : R.length ≤ 1000) (ht : (textOf f R).length ≤ 1000000) :
    Φs (k + 1 + 1 + 1) "_law_pieces" [.str (textOf f R)] = some (.list (piece f :: R.map piece)) := by
  rw [phi_pieces]
  refine run_fnE 3 rfl ?_
  have h0 := textOf_eq (f := f) (R := R)
  generalize textOf f R = text at *
  have hd4 : text.drop 4 = cat f ++ oT R := by rw [h0]; rfl
  have s1 := sets_ok (k := k) ht oT_end f of.1 hd4 of.2
  have hp := drop_app hd4
  obtain ⟨q, R', h1, e2, c1, c2, c3⟩ := p_loop (k := k) 1987 ht R (4 + (cat f).length) 1997 [piece f] (.v (piece f)) oR hp (by simp; omega) (by omega)
  have ht' : text.length ≤ 16777216 := by omega
  have hRR : R.dropLast ++ R' = R := by
    rw [c2, List.dropLast_eq_take]; exact List.take_append_drop _ _
  have hpf : D.list (f.map pc) = piece f := rfl
  rw [hpf] at s1
  have gv : (Gb.v (piece f)).s = .val (piece f) := rfl
  rw [gv] at e2
  have e4 : ((40 :: 63 :: 115 :: 58 :: (cat f ++ oT R)).take 4 : List Nat) = [40, 63, 115, 58] := rfl
  rw [← h0] at e4
  have hlen : (R.dropLast.map piece).length ≤ 1000 := by simp; omega
  rw [← hRR]
  generalize hD : R.dropLast.map piece = P at *
  have hR'1 : R' = [] ∨ ∃ g, R' = [g] := by
    rw [c2]
    cases hR0 : R with
    | nil => exact .inl rfl
    | cons x xs =>
      have : ((x :: xs).drop ((x :: xs).length - 1)).length = 1 := by rw [List.length_drop]; simp
      obtain ⟨g, hg⟩ := List.length_eq_one_iff.mp this
      exact .inr ⟨g, hg⟩
  have pl : ([piece f] ++ P : List D).length ≤ 16777216 := by simp; omega
  rcases hR'1 with rfl | ⟨g, rfl⟩
  · rw [oT_nil] at c1
    have e1 : (([41, 92] : List Nat) == [46, 42]) = false := by decide
    refine retE (σ := ?_) ?_
    rotate_left
    · rw [code_pieces_eq]
      unfold pLast
      simp only [List.replicate, List.map_cons, List.map_nil, List.cons_append, List.nil_append] at e2 ⊢
      simp only [rE, List.isEmpty_nil, List.isEmpty_cons, Nat.reduceEqDiff, Nat.zero_le, beq_self_eq_true, Nat.reduceAdd, List.length_cons, List.length_nil, List.getElem?_cons_zero, List.getElem?_cons_succ, Option.getD_some, ↓reduceIte, and_self, true_and, and_true, ne_eq, not_false_eq_true, Nat.reduceLT, Nat.reduceLeDiff, decide_true, decide_false, Bool.or_false, Bool.false_or, Bool.not_true, Bool.not_false, rR, putL, List.map_cons, List.map_nil, List.set_cons_zero, List.set_cons_succ, s1, e2, ht', cut6, c1, List.take_succ_cons, List.take_zero, e1, e4, List.append_nil]
      rw [hD]
  · rw [oT_one] at c1
    have c1' : text.drop (q + 2) = cat g ++ [41, 92, 90] := drop_app (p := [46, 42]) c1
    obtain ⟨og1, og2⟩ := oR g (by
      have : g ∈ [g] := by simp
      rw [c2] at this
      exact List.mem_of_mem_drop this)
    have s2 := sets_ok (k := k) ht (.inr (.inl ⟨_, rfl⟩)) g og1 c1' og2
    have hpg : D.list (g.map pc) = piece g := rfl
    rw [hpg] at s2
    have c4 := drop_app c1'
    refine retE (σ := ?_) ?_
    rotate_left
    · rw [code_pieces_eq]
      unfold pLast
      simp only [List.replicate, List.map_cons, List.map_nil, List.cons_append, List.nil_append] at e2 ⊢
      simp only [rE, List.isEmpty_nil, List.isEmpty_cons, Nat.reduceEqDiff, Nat.zero_le, beq_self_eq_true, Nat.reduceAdd, List.length_cons, List.length_nil, List.getElem?_cons_zero, List.getElem?_cons_succ, Option.getD_some, ↓reduceIte, and_self, true_and, and_true, ne_eq, not_false_eq_true, Nat.reduceLT, Nat.reduceLeDiff, decide_true, decide_false, Bool.or_false, Bool.false_or, Bool.not_true, Bool.not_false, rR, putL, List.map_cons, List.map_nil, List.set_cons_zero, List.set_cons_succ, s1, e2, ht', cut6, c1, List.take_succ_cons, List.take_zero, s2, c4, e4, (show P.length ≤ 16777215 by omega), (show P.length + 1 ≤ 16777216 by omega)]
      rw [List.map_append, hD]
      simp only [List.map_cons, List.map_nil]
      rfl
end
end Mine
end

/-! U14 -/
section
open PySem PySem.W PyProof.Rows
set_option maxRecDepth 100000
set_option linter.unusedSimpArgs false
namespace Mine

noncomputable def prsO (o : Nat) : List (Nat × Nat) := if o = 93 then [(93, 93), (221, 221)] else [(o + 128, o + 128), (o, o)]
noncomputable def prs : Itm → List (Nat × Nat)
  | .star => []
  | .set (some g) (some e) _ => prsO (octOf g e)
  | .set (some _) none _ => []
  | .set none none _ => [(0, 255)]
  | .set none (some true) _ => [(0, 63), (128, 191)]
  | .set none (some false) _ => [(64, 127), (192, 255)]
theorem rgs_prs (it : Itm) : rgsI it = (prs it).map fun p => rg p.1 p.2 := by
  rcases it with _ | ⟨_ | g, _ | e, b⟩
  · rfl
  · rfl
  · cases e <;> rfl
  · rfl
  · show rgsO _ = (prsO _).map _
    unfold rgsO prsO
    split <;> rfl
noncomputable def inR (o : Nat) (p : Nat × Nat) : Bool := decide (p.1 ≤ o) && decide (o ≤ p.2)
noncomputable def hitP (it : Itm) (o : Nat) : Bool := ((prs it).any (inR o)) != barI it
noncomputable def preB : List Itm → List Nat → Bool
  | [], _ => true
  | it :: g, o :: os => hitP it o && preB g os
  | _ :: _, [] => false

theorem prs_len (it : Itm) : (prs it).length ≤ 2 := by
  rcases it with _ | ⟨_ | g, _ | e, b⟩
  · simp [prs]
  · simp [prs]
  · cases e <;> simp [prs]
  · simp [prs]
  · show (prsO _).length ≤ 2
    unfold prsO
    split <;> simp
theorem compE_l {g : D → Option (Option D)} {l r : List D} (h : l.length ≤ 16777216) (hc : coll g l = some r) : compE g (some (.list l)) = some (.list r) := (if_pos (show l.length ≤ lim from h)).trans (congrArg listO hc)
theorem ltL_one {a b : Nat} : ltL [a] [b] = decide (a < b) := by
  unfold ltL
  congr 1
  simp [List.cons_lt_cons_iff]
theorem ne_nil {l : List D} : cmpD .NotEq (.list l) (.list []) = some (.bool (!l.isEmpty)) := by
  rw [ne_list']
  cases l with
  | nil => rfl
  | cons => simp

theorem coll_rg {f : D → D → Option D} {o : Nat} (hf : ∀ x y, f (.str [x]) (.str [y]) = some (.bool (inR o (x, y)))) : ∀ l : List (Nat × Nat), coll (pairO f) (l.map fun p => rg p.1 p.2) = some ((l.filter (inR o)).map fun _ => D.int 1)
  | [] => rfl
  | (x, y) :: l => by
    have ih := coll_rg hf l
    have e : pairO f (rg x y) = oneO (some (.bool (inR o (x, y)))) := by unfold pairO rg; rw [← hf]
    rw [List.map_cons, coll, e]
    cases h : inR o (x, y)
    · simp only [oneO, ih, List.filter_cons, h, Bool.false_eq_true, if_false]
    · simp only [oneO, ih, List.filter_cons, h, if_true, scal, List.map_cons]

theorem any_filter {α : Type} (f : α → Bool) : ∀ l : List α, (!(l.filter f).isEmpty) = l.any f
  | [] => rfl
  | x :: l => by
    have := any_filter f l
    cases h : f x <;> simp [h, List.filter_cons, this]

theorem le_dec {a b : Nat} : (!decide (a < b)) = decide (b ≤ a) := by rw [← decide_not]; exact decide_eq_decide.mpr Nat.not_lt
theorem c3_s {x o y : Nat} : c3 .LtE .LtE (some (.str [x])) (some (.str [o])) (some (.str [y])) = some (.bool (inR o (x, y))) := by
  show (bif !(ltL [o] [x]) then some (D.bool (!(ltL [y] [o]))) else some (D.bool false)) = some (.bool (decide (x ≤ o) && decide (o ≤ y)))
  rw [ltL_one, ltL_one, le_dec, le_dec]
  cases decide (x ≤ o) <;> rfl

noncomputable def lBody : List S := [.unp2 4 5 (.idx (.var 0) (.var 3)),
  .ife (.cmp .Eq (.cmp .NotEq (.compc 6 7 [3, 1, 2] (.cmp3 .LtE .LtE (.var 6) (.idx (.var 1) (.bin .Add (.var 2) (.var 3))) (.var 7)) (.var 5)) .lst0) (.var 4)) [.ret (.bool false)] []]
theorem code_lies_eq : code_law_lies = [.ife (.cmp .Gt (.bin .Add (.var 2) (.len (.var 0))) (.len (.var 1))) [.ret (.bool false)] [], .forr 3 (.len (.var 0)) lBody, .ret (.bool true)] := rfl

noncomputable def stL (ps : List D) (name : List Nat) (p : Nat) (g3 g4 g5 : SV) : List SV := [.val (.list ps), .val (.str name), .val (.int (p : Int)), g3, g4, g5, .un, .un]

section
variable {Φ : Str → List D → Option D} {name : List Nat} {p i : Nat} {g : List Itm}

theorem l_comp {b : Bool} {it : Itm} {o : Nat} {ps : List D} (h : name[p + i]? = some o) (hb : p + i < 4611686018427387904) :
    evm Φ .borrow (.compc 6 7 [3, 1, 2] (.cmp3 .LtE .LtE (.var 6) (.idx (.var 1) (.bin .Add (.var 2) (.var 3))) (.var 7)) (.var 5)) (mk (stL ps name p (.val (.int (i : Int))) (.val (.bool b)) (.val (.list (rgsI it))))) = some (.list (((prs it).filter (inR o)).map fun _ => D.int 1)) := by
  rw [e_compc, rgs_prs]
  unfold stL
  have hl : ((prs it).map fun p => rg p.1 p.2).length ≤ 16777216 := by
    rw [List.length_map]
    have := prs_len it
    omega
  simp only [rE, List.isEmpty_nil, List.isEmpty_cons, Nat.reduceEqDiff, Nat.zero_le, beq_self_eq_true, Nat.reduceAdd, List.length_cons, List.length_nil, List.getElem?_cons_zero, List.getElem?_cons_succ, Option.getD_some, ↓reduceIte, and_self, true_and, and_true, ne_eq, not_false_eq_true, Nat.reduceLT, Nat.reduceLeDiff, decide_true, decide_false, Bool.or_false, Bool.false_or, Bool.not_true, Bool.not_false]
  rw [compE_l hl (coll_rg (o := o) ?_ _)]
  intro x y
  have e1 : ∀ (l : List SV) (a b : SV), l.length = 8 → upd (upd (inner (mk l) [3, 1, 2]) 6 a) 7 b = mk [.un, (l[1]?).getD .un, (l[2]?).getD .un, (l[3]?).getD .un, .un, .un, a, b] := by
    intro l a b hl
    funext j
    unfold upd inner
    match j with
    | 0 => simp [mk_at]
    | 1 => simp [mk_at]
    | 2 => simp [mk_at]
    | 3 => simp [mk_at]
    | 4 => simp [mk_at]
    | 5 => simp [mk_at]
    | 6 => simp [mk_at]
    | 7 => simp [mk_at]
    | j + 8 => simp [mk_at]
  rw [e1 _ _ _ rfl]
  simp only [rE, List.isEmpty_nil, List.isEmpty_cons, Nat.reduceEqDiff, Nat.zero_le, beq_self_eq_true, Nat.reduceAdd, List.length_cons, List.length_nil, List.getElem?_cons_zero, List.getElem?_cons_succ, Option.getD_some, ↓reduceIte, and_self, true_and, and_true, ne_eq, not_false_eq_true, Nat.reduceLT, Nat.reduceLeDiff, decide_true, decide_false, Bool.or_false, Bool.false_or, Bool.not_true, Bool.not_false, idx_str' h hb, c3_s]

theorem l_turn (N : Nat) {it : Itm} {o : Nat} {ps : List D} {g3 g4 g5 : Gb} (hp : ps[i]? = some (pc it)) (h : name[p + i]? = some o) (hb : p + i < 4611686018427387904) :
    (hitP it o = true → run Φ (N + 10) lBody (put (mk (stL ps name p g3.s g4.s g5.s)) 3 (.val (.int (i : Int)))) = some (mk (stL ps name p (.val (.int (i : Int))) (.val (.bool (barI it))) (.val (.list (rgsI it)))), .nxt)) ∧
    (hitP it o = false → ∃ σ', run Φ (N + 10) lBody (put (mk (stL ps name p g3.s g4.s g5.s)) 3 (.val (.int (i : Int)))) = some (σ', .ret (.bool false))) := by
  have hc := l_comp (Φ := Φ) (b := barI it) (it := it) (ps := ps) h hb
  have hbool : ((!(((prs it).filter (inR o)).map fun _ => D.int 1).isEmpty) == barI it) = !(hitP it o) := by
    rw [List.isEmpty_map, any_filter]
    unfold hitP
    cases (prs it).any (inR o) <;> cases barI it <;> rfl
  have hi : i < 4611686018427387904 := by omega
  have idx := idx_list' hp hi
  unfold pc at idx
  refine ⟨fun hh => ?_, fun hh => ?_⟩
  · rw [hh] at hbool
    unfold lBody
    unfold stL at *
    simp only [rE, List.isEmpty_nil, List.isEmpty_cons, Nat.reduceEqDiff, Nat.zero_le, beq_self_eq_true, Nat.reduceAdd, List.length_cons, List.length_nil, List.getElem?_cons_zero, List.getElem?_cons_succ, Option.getD_some, ↓reduceIte, and_self, true_and, and_true, ne_eq, not_false_eq_true, Nat.reduceLT, Nat.reduceLeDiff, decide_true, decide_false, Bool.or_false, Bool.false_or, Bool.not_true, Bool.not_false, rR, putL, List.map_cons, List.map_nil, List.set_cons_zero, List.set_cons_succ, idx, hc, ne_nil, hbool]
  · refine retE (σ := ?_) ?_
    rotate_left
    · rw [hh] at hbool
      unfold lBody
      unfold stL at *
      simp only [rE, List.isEmpty_nil, List.isEmpty_cons, Nat.reduceEqDiff, Nat.zero_le, beq_self_eq_true, Nat.reduceAdd, List.length_cons, List.length_nil, List.getElem?_cons_zero, List.getElem?_cons_succ, Option.getD_some, ↓reduceIte, and_self, true_and, and_true, ne_eq, not_false_eq_true, Nat.reduceLT, Nat.reduceLeDiff, decide_true, decide_false, Bool.or_false, Bool.false_or, Bool.not_true, Bool.not_false, rR, putL, List.map_cons, List.map_nil, List.set_cons_zero, List.set_cons_succ, idx, hc, ne_nil, hbool]
      rfl

theorem l_loop (N : Nat) (hb : name.length ≤ 1000000) : ∀ (g' : List Itm) (i : Nat) (g3 g4 g5 : Gb), g.drop i = g' → p + i + g'.length ≤ name.length →
    (preB g' (name.drop (p + i)) = true → ∃ h3 h4 h5 : Gb, loopL (run Φ (N + 10) lBody) 3 ((List.range' i g'.length).map fun j : Nat => D.int (j : Int)) (mk (stL (g.map pc) name p g3.s g4.s g5.s)) = some (mk (stL (g.map pc) name p h3.s h4.s h5.s), .nxt)) ∧
    (preB g' (name.drop (p + i)) = false → ∃ σ', loopL (run Φ (N + 10) lBody) 3 ((List.range' i g'.length).map fun j : Nat => D.int (j : Int)) (mk (stL (g.map pc) name p g3.s g4.s g5.s)) = some (σ', .ret (.bool false)))
  | [], i, g3, g4, g5, hd, hl => by
    refine ⟨fun _ => ⟨g3, g4, g5, by simp [loopL]⟩, fun h => by simp [preB] at h⟩
  | it :: g', i, g3, g4, g5, hd, hl => by
    have hlt : p + i < name.length := by simp at hl; omega
    obtain ⟨o, ho⟩ : ∃ o, name[p + i]? = some o := ⟨_, List.getElem?_eq_getElem hlt⟩
    have hdn : name.drop (p + i) = o :: name.drop (p + i + 1) := by
      rw [List.drop_eq_getElem_cons hlt]
      rw [List.getElem?_eq_getElem hlt] at ho
      rw [Option.some.inj ho]
    have hp : (g.map pc)[i]? = some (pc it) := by rw [List.getElem?_map, drop_get hd]; rfl
    obtain ⟨t1, t2⟩ := l_turn (Φ := Φ) (g3 := g3) (g4 := g4) (g5 := g5) N hp ho (by omega)
    obtain ⟨i1, i2⟩ := l_loop N hb g' (i + 1) (.v (.int (i : Int))) (.v (.bool (barI it))) (.v (.list (rgsI it))) (drop_tail hd) (by simp at hl; omega)
    rw [← Nat.add_assoc] at i1 i2
    rw [hdn, preB, List.length_cons, List.range'_succ, List.map_cons]
    cases hh : hitP it o with
    | true =>
      rw [Bool.true_and, loopL_nxt (t1 hh)]
      exact ⟨i1, i2⟩
    | false =>
      rw [Bool.false_and]
      refine ⟨(by intro h; cases h), fun _ => ?_⟩
      obtain ⟨σ', e⟩ := t2 hh
      exact ⟨σ', loopL_ret e⟩

theorem preB_len : ∀ (g : List Itm) (os : List Nat), preB g os = true → g.length ≤ os.length
  | [], _, _ => Nat.zero_le _
  | it :: g, [], h => by simp [preB] at h
  | it :: g, o :: os, h => by
    simp only [preB, Bool.and_eq_true] at h
    have := preB_len g os h.2
    simp; omega

theorem lies_ok (k : Nat) (hb : name.length ≤ 1000000) (hg : g.length ≤ 1000) (hp : p ≤ name.length) : Φs (k + 1) "_law_lies" [piece g, .str name, .int (p : Int)] = some (.bool (preB g (name.drop p))) := by
  rw [phi_lies]
  refine run_fnE 5 rfl ?_
  have hl1 : (g.map pc).length ≤ 16777216 := by simp; omega
  have hl2 : name.length ≤ 16777216 := by omega
  by_cases hlen : p + g.length ≤ name.length
  · have hng : ¬ name.length < p + (g.map pc).length := by simp; omega
    obtain ⟨i1, i2⟩ := l_loop (Φ := Φs k) (name := name) (p := p) (g := g) 1988 hb g 0 .u .u .u rfl (by omega)
    rw [Nat.add_zero] at i1 i2
    have hr : rangeL (((g.map pc).length : Nat) : Int) = (List.range' 0 g.length).map fun j : Nat => D.int (j : Int) := by
      unfold rangeL
      rw [List.length_map, Int.toNat_natCast, List.range_eq_range']
    rw [← hr] at i1 i2
    have gu : Gb.u.s = .un := rfl
    unfold stL at i1 i2
    simp only [gu] at i1 i2
    have hk : 0 ≤ (((g.map pc).length : Nat) : Int) ∧ (((g.map pc).length : Nat) : Int) ≤ 1000000 := by simp; omega
    cases hpre : preB g (name.drop p) with
    | true =>
      obtain ⟨h3, h4, h5, e⟩ := i1 hpre
      refine retE (σ := ?_) ?_
      rotate_left
      · rw [code_lies_eq]
        simp only [List.replicate, List.map_cons, List.map_nil, List.cons_append, List.nil_append, piece]
        simp only [rE, List.isEmpty_nil, List.isEmpty_cons, Nat.reduceEqDiff, Nat.zero_le, beq_self_eq_true, Nat.reduceAdd, List.length_cons, List.length_nil, List.getElem?_cons_zero, List.getElem?_cons_succ, Option.getD_some, ↓reduceIte, and_self, true_and, and_true, ne_eq, not_false_eq_true, Nat.reduceLT, Nat.reduceLeDiff, decide_true, decide_false, Bool.or_false, Bool.false_or, Bool.not_true, Bool.not_false, rR, putL, List.map_cons, List.map_nil, List.set_cons_zero, List.set_cons_succ, hl1, hl2, hng, kforr_s hk, e]
        rfl
    | false =>
      obtain ⟨σ', e⟩ := i2 hpre
      refine retE (σ := ?_) ?_
      rotate_left
      · rw [code_lies_eq]
        simp only [List.replicate, List.map_cons, List.map_nil, List.cons_append, List.nil_append, piece]
        simp only [rE, List.isEmpty_nil, List.isEmpty_cons, Nat.reduceEqDiff, Nat.zero_le, beq_self_eq_true, Nat.reduceAdd, List.length_cons, List.length_nil, List.getElem?_cons_zero, List.getElem?_cons_succ, Option.getD_some, ↓reduceIte, and_self, true_and, and_true, ne_eq, not_false_eq_true, Nat.reduceLT, Nat.reduceLeDiff, decide_true, decide_false, Bool.or_false, Bool.false_or, Bool.not_true, Bool.not_false, rR, putL, List.map_cons, List.map_nil, List.set_cons_zero, List.set_cons_succ, hl1, hl2, hng, kforr_s hk, e]
        rfl
  · have hng : name.length < p + (g.map pc).length := by simp; omega
    have hpre : preB g (name.drop p) = false := by
      cases h : preB g (name.drop p) with
      | false => rfl
      | true =>
        have := preB_len _ _ h
        rw [List.length_drop] at this
        omega
    rw [hpre]
    refine retE (σ := ?_) ?_
    rotate_left
    · rw [code_lies_eq]
      simp only [List.replicate, List.map_cons, List.map_nil, List.cons_append, List.nil_append, piece]
      simp only [rE, List.isEmpty_nil, List.isEmpty_cons, Nat.reduceEqDiff, Nat.zero_le, beq_self_eq_true, Nat.reduceAdd, List.length_cons, List.length_nil, List.getElem?_cons_zero, List.getElem?_cons_succ, Option.getD_some, ↓reduceIte, and_self, true_and, and_true, ne_eq, not_false_eq_true, Nat.reduceLT, Nat.reduceLeDiff, decide_true, decide_false, Bool.or_false, Bool.false_or, Bool.not_true, Bool.not_false, rR, putL, List.map_cons, List.map_nil, List.set_cons_zero, List.set_cons_succ, hl1, hl2, hng]
      rfl
end
end Mine
end

/-! U15 -/
section
open PySem PySem.W PyProof.Rows
set_option maxRecDepth 100000
set_option linter.unusedSimpArgs false
namespace Mine

theorem len_piece {g : List Itm} (h : g.length ≤ 16777216) : lenD (piece g) = some (.int ((g.length : Nat) : Int)) := by
  unfold piece
  rw [len_l (by simpa using h), List.length_map]

noncomputable def seekF (g : List Itm) : List Nat → Option (List Nat)
  | [] => if preB g [] then some [] else none
  | o :: t => if preB g (o :: t) then some (o :: t) else seekF g t
noncomputable def walkM : List (List Itm) → List Nat → Option (List Nat)
  | [], os => some os
  | g :: m, os => match seekF g os with
    | none => none
    | some r => walkM m (r.drop g.length)
noncomputable def lastB (g : List Itm) (r : List Nat) : Bool := decide (g.length ≤ r.length) && preB g (r.drop (r.length - g.length))
noncomputable def takesB (f : List Itm) (R : List (List Itm)) (os : List Nat) : Bool := preB f os && match R.getLast? with
  | none => f.length == os.length
  | some l => match walkM R.dropLast (os.drop f.length) with
    | none => false
    | some r => lastB l r

noncomputable def tIn : List S := [.set 2 (.bin .Add (.var 2) (.int (1))),
  .ife (.cmp .Gt (.var 2) (.len (.var 1))) [.ret (.bool false)] []]
noncomputable def tTest : E := .not (.call3 "_law_lies" (.var 3) (.var 1) (.var 2))
noncomputable def tBody : List S := [.whl tTest tIn, .set 2 (.bin .Add (.var 2) (.len (.var 3)))]
theorem code_takes_eq : code_law_takes = [.ife (.not (.call3 "_law_lies" (.idx (.var 0) (.int (0))) (.var 1) (.int (0)))) [.ret (.bool false)] [],
  .set 2 (.len (.idx (.var 0) (.int (0)))),
  .ife (.cmp .Eq (.len (.var 0)) (.int (1))) [.ret (.cmp .Eq (.var 2) (.len (.var 1)))] [],
  .forl 3 (.slc (.var 0) (.int (1)) (.int (-1))) tBody,
  .set 4 (.bin .Sub (.len (.var 1)) (.len (.idx (.var 0) (.int (-1))))),
  .ret (.and (.cmp .LtE (.var 2) (.var 4)) (.call3 "_law_lies" (.idx (.var 0) (.int (-1))) (.var 1) (.var 4)))] := rfl

section
variable {k : Nat} {name : List Nat} {ps : List D} {g : List Itm}

theorem preB_drop_nil : ∀ {g : List Itm} {os : List Nat}, preB g os = true → g.length ≤ os.length := fun h => preB_len _ _ h

noncomputable def stK (ps : List D) (name : List Nat) (p : Nat) (g3 g4 : SV) : List SV := [.val (.list ps), .val (.str name), .val (.int (p : Int)), g3, g4]

theorem t_seek (N : Nat) (hb : name.length ≤ 1000000) (hg : g.length ≤ 1000) {g4 : Gb} : ∀ (os : List Nat) (p M : Nat), name.drop p = os → p ≤ name.length → os.length + 1 < M →
    (∀ r, seekF g os = some r → ∃ q, q ≤ name.length ∧ name.drop q = r ∧ preB g r = true ∧ loopW (evm (Φs (k + 1)) .test tTest) (run (Φs (k + 1)) (N + 10) tIn) M (mk (stK ps name p (.val (piece g)) g4.s)) = some (mk (stK ps name q (.val (piece g)) g4.s), .nxt)) ∧
    (seekF g os = none → ∃ σ', loopW (evm (Φs (k + 1)) .test tTest) (run (Φs (k + 1)) (N + 10) tIn) M (mk (stK ps name p (.val (piece g)) g4.s)) = some (σ', .ret (.bool false)))
  | [], p, M, hd, hp, hM => by
    obtain ⟨M, rfl⟩ : ∃ m, M = m + 1 + 1 := ⟨M - 2, by simp at hM; omega⟩
    have hl := lies_ok (g := g) (name := name) (p := p) k hb hg hp
    rw [hd] at hl
    have hpn : p = name.length := by
      have := drop_len hd hp
      simp at this; omega
    have hl2 : name.length ≤ 16777216 := by omega
    unfold seekF
    cases hpre : preB g [] with
    | true =>
      rw [hpre] at hl
      simp only [if_true]
      refine ⟨fun r hr => ?_, fun h => by cases h⟩
      cases hr
      refine ⟨p, hp, hd, hpre, loopW_end ?_⟩
      unfold tTest stK
      simp only [rE, List.isEmpty_nil, List.isEmpty_cons, Nat.reduceEqDiff, Nat.zero_le, beq_self_eq_true, Nat.reduceAdd, List.length_cons, List.length_nil, List.getElem?_cons_zero, List.getElem?_cons_succ, Option.getD_some, ↓reduceIte, and_self, true_and, and_true, ne_eq, not_false_eq_true, Nat.reduceLT, Nat.reduceLeDiff, decide_true, decide_false, Bool.or_false, Bool.false_or, Bool.not_true, Bool.not_false, hl]
    | false =>
      rw [hpre] at hl
      simp only [Bool.false_eq_true, if_false]
      refine ⟨fun r hr => (by cases hr), fun _ => ?_⟩
      have hgt : name.length < p + 1 := by omega
      refine ⟨mk (stK ps name (p + 1) (.val (piece g)) g4.s), loopW_ret ?_ ?_⟩
      · unfold tTest stK
        simp only [rE, List.isEmpty_nil, List.isEmpty_cons, Nat.reduceEqDiff, Nat.zero_le, beq_self_eq_true, Nat.reduceAdd, List.length_cons, List.length_nil, List.getElem?_cons_zero, List.getElem?_cons_succ, Option.getD_some, ↓reduceIte, and_self, true_and, and_true, ne_eq, not_false_eq_true, Nat.reduceLT, Nat.reduceLeDiff, decide_true, decide_false, Bool.or_false, Bool.false_or, Bool.not_true, Bool.not_false, hl]
      · unfold tIn stK
        simp only [rE, List.isEmpty_nil, List.isEmpty_cons, Nat.reduceEqDiff, Nat.zero_le, beq_self_eq_true, Nat.reduceAdd, List.length_cons, List.length_nil, List.getElem?_cons_zero, List.getElem?_cons_succ, Option.getD_some, ↓reduceIte, and_self, true_and, and_true, ne_eq, not_false_eq_true, Nat.reduceLT, Nat.reduceLeDiff, decide_true, decide_false, Bool.or_false, Bool.false_or, Bool.not_true, Bool.not_false, rR, putL, List.map_cons, List.map_nil, List.set_cons_zero, List.set_cons_succ, hl2, hgt]
  | o :: t, p, M, hd, hp, hM => by
    obtain ⟨M, rfl⟩ : ∃ m, M = m + 1 := ⟨M - 1, by simp at hM; omega⟩
    have hl := lies_ok (g := g) (name := name) (p := p) k hb hg hp
    rw [hd] at hl
    have hlt := drop_lt hd
    have hl2 : name.length ≤ 16777216 := by omega
    unfold seekF
    cases hpre : preB g (o :: t) with
    | true =>
      rw [hpre] at hl
      simp only [if_true]
      refine ⟨fun r hr => ?_, fun h => by cases h⟩
      cases hr
      refine ⟨p, hp, hd, hpre, loopW_end ?_⟩
      unfold tTest stK
      simp only [rE, List.isEmpty_nil, List.isEmpty_cons, Nat.reduceEqDiff, Nat.zero_le, beq_self_eq_true, Nat.reduceAdd, List.length_cons, List.length_nil, List.getElem?_cons_zero, List.getElem?_cons_succ, Option.getD_some, ↓reduceIte, and_self, true_and, and_true, ne_eq, not_false_eq_true, Nat.reduceLT, Nat.reduceLeDiff, decide_true, decide_false, Bool.or_false, Bool.false_or, Bool.not_true, Bool.not_false, hl]
    | false =>
      rw [hpre] at hl
      simp only [Bool.false_eq_true, if_false]
      have hgt : ¬ name.length < p + 1 := by omega
      have e1 : evm (Φs (k + 1)) .test tTest (mk (stK ps name p (.val (piece g)) g4.s)) = some (.bool true) := by
        unfold tTest stK
        simp only [rE, List.isEmpty_nil, List.isEmpty_cons, Nat.reduceEqDiff, Nat.zero_le, beq_self_eq_true, Nat.reduceAdd, List.length_cons, List.length_nil, List.getElem?_cons_zero, List.getElem?_cons_succ, Option.getD_some, ↓reduceIte, and_self, true_and, and_true, ne_eq, not_false_eq_true, Nat.reduceLT, Nat.reduceLeDiff, decide_true, decide_false, Bool.or_false, Bool.false_or, Bool.not_true, Bool.not_false, hl]
      have e2 : run (Φs (k + 1)) (N + 10) tIn (mk (stK ps name p (.val (piece g)) g4.s)) = some (mk (stK ps name (p + 1) (.val (piece g)) g4.s), .nxt) := by
        unfold tIn stK
        simp only [rE, List.isEmpty_nil, List.isEmpty_cons, Nat.reduceEqDiff, Nat.zero_le, beq_self_eq_true, Nat.reduceAdd, List.length_cons, List.length_nil, List.getElem?_cons_zero, List.getElem?_cons_succ, Option.getD_some, ↓reduceIte, and_self, true_and, and_true, ne_eq, not_false_eq_true, Nat.reduceLT, Nat.reduceLeDiff, decide_true, decide_false, Bool.or_false, Bool.false_or, Bool.not_true, Bool.not_false, rR, putL, List.map_cons, List.map_nil, List.set_cons_zero, List.set_cons_succ, hl2, hgt]
      rw [loopW_nxt e1 e2]
      exact t_seek N hb hg t (p + 1) M (drop_tail hd) (by omega) (by simp at hM; omega)

theorem t_walk (N : Nat) (hb : name.length ≤ N) (hN : N ≤ 1000000) {g4 : Gb} : ∀ (mids : List (List Itm)) (p : Nat) (g3 : Gb), (∀ g ∈ mids, g.length ≤ 1000) → p ≤ name.length →
    (∀ r, walkM mids (name.drop p) = some r → ∃ (q : Nat) (h3 : Gb), q ≤ name.length ∧ name.drop q = r ∧ loopL (run (Φs (k + 1)) (N + 20) tBody) 3 (mids.map piece) (mk (stK ps name p g3.s g4.s)) = some (mk (stK ps name q h3.s g4.s), .nxt)) ∧
    (walkM mids (name.drop p) = none → ∃ σ', loopL (run (Φs (k + 1)) (N + 20) tBody) 3 (mids.map piece) (mk (stK ps name p g3.s g4.s)) = some (σ', .ret (.bool false)))
  | [], p, g3, hm, hp => by
    unfold walkM
    refine ⟨fun r hr => ?_, fun h => by cases h⟩
    cases hr
    exact ⟨p, g3, hp, rfl, by rw [List.map_nil, loopL_nil]⟩
  | g :: m, p, g3, hm, hp => by
    have hg := hm g (by simp)
    obtain ⟨s1, s2⟩ := t_seek (k := k) (ps := ps) (g := g) (g4 := g4) (N + 9) (by omega) hg (name.drop p) p (N + 19) rfl hp (by rw [List.length_drop]; omega)
    have lp := len_piece (g := g) (by omega)
    have put3 : put (mk (stK ps name p g3.s g4.s)) 3 (.val (piece g)) = mk (stK ps name p (.val (piece g)) g4.s) := by
      unfold stK
      simp only [rE, List.isEmpty_nil, List.isEmpty_cons, Nat.reduceEqDiff, Nat.zero_le, beq_self_eq_true, Nat.reduceAdd, List.length_cons, List.length_nil, List.getElem?_cons_zero, List.getElem?_cons_succ, Option.getD_some, ↓reduceIte, and_self, true_and, and_true, ne_eq, not_false_eq_true, Nat.reduceLT, Nat.reduceLeDiff, decide_true, decide_false, Bool.or_false, Bool.false_or, Bool.not_true, Bool.not_false, rR, putL, List.map_cons, List.map_nil, List.set_cons_zero, List.set_cons_succ]
    unfold walkM
    cases hs : seekF g (name.drop p) with
    | none =>
      refine ⟨fun r hr => (by cases hr), fun _ => ?_⟩
      obtain ⟨σ', e⟩ := s2 hs
      refine ⟨σ', ?_⟩
      rw [List.map_cons]
      refine loopL_ret ?_
      rw [put3]
      unfold tBody
      simp only [rE, List.isEmpty_nil, List.isEmpty_cons, Nat.reduceEqDiff, Nat.zero_le, beq_self_eq_true, Nat.reduceAdd, List.length_cons, List.length_nil, List.getElem?_cons_zero, List.getElem?_cons_succ, Option.getD_some, ↓reduceIte, and_self, true_and, and_true, ne_eq, not_false_eq_true, Nat.reduceLT, Nat.reduceLeDiff, decide_true, decide_false, Bool.or_false, Bool.false_or, Bool.not_true, Bool.not_false, rR, putL, List.map_cons, List.map_nil, List.set_cons_zero, List.set_cons_succ, e]
    | some r0 =>
      obtain ⟨q, hq, hqd, hpre, e⟩ := s1 r0 hs
      have hle := preB_len _ _ hpre
      have hlen := drop_len hqd hq
      have hq2 : q + g.length ≤ name.length := by omega
      have hdr : r0.drop g.length = name.drop (q + g.length) := by rw [← hqd, List.drop_drop]
      obtain ⟨i1, i2⟩ := t_walk N hb hN m (q + g.length) (.v (piece g)) (fun x hx => hm x (by simp [hx])) hq2
      have eb : run (Φs (k + 1)) (N + 20) tBody (put (mk (stK ps name p g3.s g4.s)) 3 (.val (piece g))) = some (mk (stK ps name (q + g.length) (Gb.v (piece g)).s g4.s), .nxt) := by
        rw [put3]
        unfold tBody
        unfold stK at *
        simp only [rE, List.isEmpty_nil, List.isEmpty_cons, Nat.reduceEqDiff, Nat.zero_le, beq_self_eq_true, Nat.reduceAdd, List.length_cons, List.length_nil, List.getElem?_cons_zero, List.getElem?_cons_succ, Option.getD_some, ↓reduceIte, and_self, true_and, and_true, ne_eq, not_false_eq_true, Nat.reduceLT, Nat.reduceLeDiff, decide_true, decide_false, Bool.or_false, Bool.false_or, Bool.not_true, Bool.not_false, rR, putL, List.map_cons, List.map_nil, List.set_cons_zero, List.set_cons_succ, e, lp]
        rfl
      rw [List.map_cons, loopL_nxt eb]
      simp only [hdr]
      exact ⟨i1, i2⟩

theorem takes_ok (k : Nat) (f : List Itm) (R : List (List Itm)) (hb : name.length ≤ 1000) (hf : f.length ≤ 1000) (hR : ∀ g ∈ R, g.length ≤ 1000) (hRl : R.length ≤ 1000) :
    Φs (k + 1 + 1) "_law_takes" [.list (piece f :: R.map piece), .str name] = some (.bool (takesB f R name)) := by
  rw [phi_takes]
  refine run_fnE 3 rfl ?_
  have l0 := lies_ok (g := f) (name := name) (p := 0) k (by omega) hf (by omega)
  rw [List.drop_zero] at l0
  have hl2 : name.length ≤ 16777216 := by omega
  have lf := len_piece (g := f) (by omega)
  have ix0 : idxD (.list (piece f :: R.map piece)) (.int ((0 : Nat) : Int)) = some (piece f) := idx_list' rfl (by decide)
  unfold takesB
  cases hpf : preB f name with
  | false =>
    rw [hpf] at l0
    refine retE (σ := ?_) ?_
    rotate_left
    · rw [code_takes_eq]
      simp only [List.replicate, List.map_cons, List.map_nil, List.cons_append, List.nil_append]
      simp only [rE, List.isEmpty_nil, List.isEmpty_cons, Nat.reduceEqDiff, Nat.zero_le, beq_self_eq_true, Nat.reduceAdd, List.length_cons, List.length_nil, List.getElem?_cons_zero, List.getElem?_cons_succ, Option.getD_some, ↓reduceIte, and_self, true_and, and_true, ne_eq, not_false_eq_true, Nat.reduceLT, Nat.reduceLeDiff, decide_true, decide_false, Bool.or_false, Bool.false_or, Bool.not_true, Bool.not_false, rR, putL, List.map_cons, List.map_nil, List.set_cons_zero, List.set_cons_succ, ix0, l0, Bool.false_and]
      rfl
  | true =>
    rw [hpf] at l0
    have hfl := preB_len _ _ hpf
    have hll : (piece f :: R.map piece).length ≤ 16777216 := by simp; omega
    have hlen : (piece f :: R.map piece).length = R.length + 1 := by simp
    rw [Bool.true_and]
    cases hL : R.getLast? with
    | none =>
      have hR0 : R = [] := by simpa using hL
      subst hR0
      refine retE (σ := ?_) ?_
      rotate_left
      · rw [code_takes_eq]
        simp only [List.replicate, List.map_cons, List.map_nil, List.cons_append, List.nil_append] at ix0 ⊢
        simp only [rE, List.isEmpty_nil, List.isEmpty_cons, Nat.reduceEqDiff, Nat.zero_le, beq_self_eq_true, Nat.reduceAdd, List.length_cons, List.length_nil, List.getElem?_cons_zero, List.getElem?_cons_succ, Option.getD_some, ↓reduceIte, and_self, true_and, and_true, ne_eq, not_false_eq_true, Nat.reduceLT, Nat.reduceLeDiff, decide_true, decide_false, Bool.or_false, Bool.false_or, Bool.not_true, Bool.not_false, rR, putL, List.map_cons, List.map_nil, List.set_cons_zero, List.set_cons_succ, ix0, l0, lf, hl2]
        rfl
    | some g =>
      have hgR : g ∈ R := List.mem_of_getLast? hL
      have hg := hR g hgR
      have hRne : R.length ≠ 0 := by
        intro h
        have : R = [] := by simpa using h
        subst this
        cases hL
      have e1 : (R.length + 1 == 1) = false := beq_eq_false_iff_ne.mpr (by omega)
      have lg := len_piece (g := g) (by omega)
      have ixl : idxD (.list (piece f :: R.map piece)) (.int (-1)) = some (piece g) := by
        refine last_idx ?_
        rw [List.getLast?_cons, List.getLast?_map, hL]
        rfl
      have hmid : slcE (.list (piece f :: R.map piece)) (.int ((1 : Nat) : Int)) (.int (-1)) = some (.list (R.dropLast.map piece)) := by
        show slcD (.list (piece f :: R.map piece)) (some ((1 : Nat) : Int)) (some (-1)) = _
        have hlim : (piece f :: R.map piece).length ≤ lim := hll
        simp only [slcD, if_pos hlim]
        congr 2
        show ((piece f :: R.map piece).drop (clipAt (piece f :: R.map piece).length 1)).take (clipAt (piece f :: R.map piece).length (-1) - clipAt (piece f :: R.map piece).length 1) = _
        have c1 : clipAt (piece f :: R.map piece).length 1 = 1 := by
          have := clipAt_cast (piece f :: R.map piece).length 1
          rw [hlen] at this ⊢
          simp only [show ¬ ((1 : Int) < 0) by decide, if_false] at this
          omega
        have c2 : clipAt (piece f :: R.map piece).length (-1) = R.length := by
          have := clipAt_cast (piece f :: R.map piece).length (-1)
          rw [hlen] at this ⊢
          simp only [show ((-1 : Int) < 0) by decide, if_true] at this
          omega
        rw [c1, c2, List.drop_succ_cons, List.drop_zero, List.dropLast_eq_take, List.map_take]
      generalize piece f :: R.map piece = PP at *
      obtain ⟨w1, w2⟩ := t_walk (k := k) (ps := PP) (name := name) (g4 := .u) 1976 (by omega) (by omega) R.dropLast f.length .u (fun x hx => hR x ((List.dropLast_sublist R).subset hx)) hfl
      have gu : Gb.u.s = .un := rfl
      unfold stK at w1 w2
      simp only [gu] at w1 w2
      cases hw : walkM R.dropLast (name.drop f.length) with
      | none =>
        obtain ⟨σ', e⟩ := w2 hw
        refine retE (σ := ?_) ?_
        rotate_left
        · rw [code_takes_eq]
          simp only [List.replicate, List.map_cons, List.map_nil, List.cons_append, List.nil_append]
          simp only [rE, List.isEmpty_nil, List.isEmpty_cons, Nat.reduceEqDiff, Nat.zero_le, beq_self_eq_true, Nat.reduceAdd, List.length_cons, List.length_nil, List.getElem?_cons_zero, List.getElem?_cons_succ, Option.getD_some, ↓reduceIte, and_self, true_and, and_true, ne_eq, not_false_eq_true, Nat.reduceLT, Nat.reduceLeDiff, decide_true, decide_false, Bool.or_false, Bool.false_or, Bool.not_true, Bool.not_false, rR, putL, List.map_cons, List.map_nil, List.set_cons_zero, List.set_cons_succ, ix0, l0, lf, len_l hll, hlen, e1, hmid, e]
          rfl
      | some r =>
        obtain ⟨q, h3, hq, hqd, e⟩ := w1 r hw
        have hrl := drop_len hqd hq
        by_cases hgl : g.length ≤ name.length
        · have ll := lies_ok (g := g) (name := name) (p := name.length - g.length) k (by omega) hg (by omega)
          have hlast : (decide (q ≤ name.length - g.length) && preB g (name.drop (name.length - g.length))) = lastB g r := by
            unfold lastB
            by_cases h : g.length ≤ r.length
            · have h1 : q ≤ name.length - g.length := by omega
              have h2 : name.drop (name.length - g.length) = r.drop (r.length - g.length) := by
                have hj : (name.drop q).length = r.length := congrArg List.length hqd
                rw [← hqd, List.drop_drop]; congr 1; omega
              simp only [h, h1, h2]
            · have h1 : ¬ q ≤ name.length - g.length := by omega
              simp only [h, h1, decide_false, Bool.false_and]
          simp only
          rw [← hlast]
          refine retE (σ := ?_) ?_
          rotate_left
          · rw [code_takes_eq]
            simp only [List.replicate, List.map_cons, List.map_nil, List.cons_append, List.nil_append]
            simp only [rE, List.isEmpty_nil, List.isEmpty_cons, Nat.reduceEqDiff, Nat.zero_le, beq_self_eq_true, Nat.reduceAdd, List.length_cons, List.length_nil, List.getElem?_cons_zero, List.getElem?_cons_succ, Option.getD_some, ↓reduceIte, and_self, true_and, and_true, ne_eq, not_false_eq_true, Nat.reduceLT, Nat.reduceLeDiff, decide_true, decide_false, Bool.or_false, Bool.false_or, Bool.not_true, Bool.not_false, rR, putL, List.map_cons, List.map_nil, List.set_cons_zero, List.set_cons_succ, ix0, l0, lf, len_l hll, hlen, e1, hmid, e, ixl, lg, hl2, hgl, ll, andS_b]
            rfl
        · have hlast : lastB g r = false := by
            unfold lastB
            have h : ¬ g.length ≤ r.length := by omega
            simp only [h, decide_false, Bool.false_and]
          simp only
          rw [hlast]
          have hneg : cmpD .LtE (.int (q : Int)) (.int ((name.length : Int) - (g.length : Int))) = some (.bool false) := by
            rw [le_int', decide_eq_false]
            omega
          refine retE (σ := ?_) ?_
          rotate_left
          · rw [code_takes_eq]
            simp only [List.replicate, List.map_cons, List.map_nil, List.cons_append, List.nil_append]
            simp only [rE, List.isEmpty_nil, List.isEmpty_cons, Nat.reduceEqDiff, Nat.zero_le, beq_self_eq_true, Nat.reduceAdd, List.length_cons, List.length_nil, List.getElem?_cons_zero, List.getElem?_cons_succ, Option.getD_some, ↓reduceIte, and_self, true_and, and_true, ne_eq, not_false_eq_true, Nat.reduceLT, Nat.reduceLeDiff, decide_true, decide_false, Bool.or_false, Bool.false_or, Bool.not_true, Bool.not_false, rR, putL, List.map_cons, List.map_nil, List.set_cons_zero, List.set_cons_succ, ix0, l0, lf, len_l hll, hlen, e1, hmid, e, ixl, lg, hl2, bin_sub, hneg]
            rfl
end
end Mine
end

/-! U16 -/
section
open PySem PySem.W PyProof.Rows
set_option maxRecDepth 100000
set_option linter.unusedSimpArgs false
namespace Mine

noncomputable def fitsB (it : Itm) (d : Nat) (t : Bool) : Bool := match it with
  | .star => false
  | .set g e b => (g.elim true (fun g => d == g) && e.elim true (fun e => t == e)) != b

theorem fits_ok (k : Nat) {it : Itm} (hs : it ≠ .star) (d : Nat) (t : Bool) : Φs (k + 1) "_law_fits" [enc it, .tup [.int (d : Int), .bool t]] = some (.bool (fitsB it d t)) := by
  rw [phi_fits]
  refine run_fnE 3 rfl ?_
  rcases it with _ | ⟨g, e, b⟩
  · exact absurd rfl hs
  have i0 : idxD (.tup [.int (d : Int), .bool t]) (.int ((0 : Nat) : Int)) = some (.int (d : Int)) := idx_tup' rfl (by decide)
  have i1 : idxD (.tup [.int (d : Int), .bool t]) (.int ((1 : Nat) : Int)) = some (.bool t) := idx_tup' rfl (by decide)
  have a0 : anyS (g.elim D.none fun n => .int n) [.none, .int (d : Int)] = some (g.elim true (fun g => d == g)) := by
    cases g with
    | none =>
      rw [any_cons (b := true) rfl, any_cons (b := false) rfl]; rfl
    | some g =>
      show anyS (.int (g : Int)) _ = _
      rw [any_cons (b := false) rfl, n_any, any_nil, anyC_s, anyC_s]; simp
  have a1 : anyS (e.elim D.none D.bool) [.none, .bool t] = some (e.elim true (fun e => t == e)) := by
    cases e with
    | none =>
      rw [any_cons (b := true) rfl, any_cons (b := false) rfl]; rfl
    | some e =>
      show anyS (.bool e) _ = _
      rw [any_cons (b := false) rfl, any_cons (b := t == e) rfl, any_nil, anyC_s, anyC_s]; simp
  refine retE (σ := ?_) ?_
  rotate_left
  · unfold code_law_fits
    simp only [List.replicate, List.map_cons, List.map_nil, List.cons_append, List.nil_append, enc]
    simp only [rE, List.isEmpty_nil, List.isEmpty_cons, Nat.reduceEqDiff, Nat.zero_le, beq_self_eq_true, Nat.reduceAdd, List.length_cons, List.length_nil, List.getElem?_cons_zero, List.getElem?_cons_succ, Option.getD_some, ↓reduceIte, and_self, true_and, and_true, ne_eq, not_false_eq_true, Nat.reduceLT, Nat.reduceLeDiff, decide_true, decide_false, Bool.or_false, Bool.false_or, Bool.not_true, Bool.not_false, rR, putL, List.map_cons, List.map_nil, List.set_cons_zero, List.set_cons_succ, i0, i1, a0, a1, andS_b]
    rfl

noncomputable def sufs : List Nat → List (List Nat)
  | [] => [[]]
  | o :: t => (o :: t) :: sufs t
noncomputable def anySuf (P : List Nat → Bool) : List Nat → Bool
  | [] => P []
  | o :: t => P (o :: t) || anySuf P t
noncomputable def digB (o : Nat) : Nat × Bool := (o % 64, o / 64 % 2 == 0)
noncomputable def hitF (it : Itm) (o : Nat) : Bool := fitsB it (o % 64) (o / 64 % 2 == 0)
noncomputable def M : List Itm → List Nat → Bool
  | [], os => os.isEmpty
  | .star :: r, os => anySuf (M r) os
  | .set g e b :: r, os => match os with
    | [] => false
    | o :: t => hitF (.set g e b) o && M r t
noncomputable def digD (o : Nat) : D := .tup [.int ((o % 64 : Nat) : Int), .bool (o / 64 % 2 == 0)]

theorem sufs_len : ∀ os : List Nat, (sufs os).length = os.length + 1
  | [] => rfl
  | o :: t => by simp [sufs, sufs_len t]
theorem sufs_get : ∀ (os : List Nat) (p : Nat), p ≤ os.length → (sufs os)[p]? = some (os.drop p)
  | [], p, h => by
    have : p = 0 := by simpa using h
    subst this; rfl
  | o :: t, 0, h => rfl
  | o :: t, p + 1, h => by
    simp only [sufs, List.getElem?_cons_succ, List.drop_succ_cons]
    exact sufs_get t p (by simpa using h)
theorem sufs_drop : ∀ (os : List Nat) (p : Nat), p ≤ os.length → (sufs os).drop p = sufs (os.drop p)
  | [], p, h => by
    have : p = 0 := by simpa using h
    subst this; rfl
  | o :: t, 0, h => rfl
  | o :: t, p + 1, h => by
    simp only [sufs, List.drop_succ_cons]
    exact sufs_drop t p (by simpa using h)
theorem sufs_any (P : List Nat → Bool) : ∀ os, ((sufs os).map P).any id = anySuf P os
  | [] => by simp [sufs, anySuf]
  | o :: t => by
    have := sufs_any P t
    simp only [sufs, List.map_cons, List.any_cons, this, anySuf, id]
theorem sufs_range (P : List Nat → Bool) (os : List Nat) : (sufs os).map P = (List.range (os.length + 1)).map fun p => P (os.drop p) := by
  apply List.ext_getElem?
  intro i
  rw [List.getElem?_map, List.getElem?_map]
  by_cases h : i ≤ os.length
  · rw [sufs_get os i h, List.getElem?_range (by omega)]; rfl
  · rw [List.getElem?_eq_none (by rw [sufs_len]; omega), List.getElem?_eq_none (by simp; omega)]; rfl

theorem anyS_true : ∀ bs : List Bool, anyS (.bool true) (bs.map D.bool) = some (bs.any id)
  | [] => rfl
  | b :: bs => by
    rw [List.map_cons, any_cons (b := b) (by cases b <;> rfl), anyS_true bs, anyC_s]; rfl

theorem coll_bool {g : D → Option (Option D)} {f : Nat → Bool} : ∀ (l : List Nat), (∀ i ∈ l, g (.int (i : Int)) = some (some (.bool (f i)))) → coll g (l.map fun i : Nat => D.int (i : Int)) = some (l.map fun i => D.bool (f i))
  | [], _ => rfl
  | i :: l, h => by
    rw [List.map_cons, coll, h i (by simp)]
    simp only [scal, if_true]
    rw [coll_bool l (fun j hj => h j (by simp [hj]))]
    rfl
theorem compr_bool {g : D → Option (Option D)} {f : Nat → Bool} {n : Nat} (hn : n ≤ 1000000) (h : ∀ i, i < n → g (.int (i : Int)) = some (some (.bool (f i)))) : comprE g (some (.int (n : Int))) = some (.list (((List.range n).map f).map D.bool)) := by
  refine (if_pos ⟨Int.natCast_nonneg n, Int.ofNat_le.mpr hn⟩).trans ?_
  unfold rangeL
  rw [Int.toNat_natCast, coll_bool (f := f) _ (fun i hi => h i (by simpa using hi)), List.map_map]
  rfl
theorem someO_s {x : D} : someO (some x) = some (some x) := id rfl
theorem coll_const {l : List D} : coll (fun _ => someO (some (D.bool false))) l = some (l.map fun _ => D.bool false) := by
  induction l with
  | nil => rfl
  | cons d l ih => rw [coll]; simp only [someO, scal, if_true] at ih ⊢; rw [ih]; rfl

noncomputable def aStar : S := .set 2 (.compr 5 [2] (.cmp .In (.bool true) (.slc (.var 2) (.var 5) .none)) (.len (.var 2)))
noncomputable def aItem : S := .set 2 (.bin .Add (.compr 5 [2, 1, 3] (.and (.idx (.var 2) (.bin .Add (.var 5) (.int (1)))) (.call2 "_law_fits" (.var 3) (.idx (.var 1) (.var 5)))) (.len (.var 1))) (.lst1 (.bool false)))
noncomputable def aBody : List S := [.ife (.cmp .Eq (.var 3) (.str [97, 32, 115, 116, 97, 114])) [aStar] [aItem]]
theorem code_answers_eq : code_law_answers = [.set 2 (.bin .Add (.comp 4 [] (.bool false) (.var 1)) (.lst1 (.bool true))), .forl 3 (.rev (.var 0)) aBody, .ret (.var 2)] := rfl

noncomputable def bsD (P : List Nat → Bool) (os : List Nat) : D := .list (((sufs os).map P).map D.bool)

noncomputable def stA (asked : D) (os : List Nat) (P : List Nat → Bool) (g3 : SV) : List SV := [.val asked, .val (.list (os.map digD)), .val (bsD P os), g3, .un, .un]

theorem upd_inner1 {l : List SV} {d : D} (_ : l.length = 6) : upd (inner (mk l) [2]) 5 (.val d) = mk [.un, .un, (l[2]?).getD .un, .un, .un, .val d] := by
  funext j
  unfold upd inner
  match j with
  | 0 => simp [mk_at]
  | 1 => simp [mk_at]
  | 2 => simp [mk_at]
  | 3 => simp [mk_at]
  | 4 => simp [mk_at]
  | 5 => simp [mk_at]
  | j + 6 => simp [mk_at]
theorem upd_inner3 {l : List SV} {d : D} (_ : l.length = 6) : upd (inner (mk l) [2, 1, 3]) 5 (.val d) = mk [.un, (l[1]?).getD .un, (l[2]?).getD .un, (l[3]?).getD .un, .un, .val d] := by
  funext j
  unfold upd inner
  match j with
  | 0 => simp [mk_at]
  | 1 => simp [mk_at]
  | 2 => simp [mk_at]
  | 3 => simp [mk_at]
  | 4 => simp [mk_at]
  | 5 => simp [mk_at]
  | j + 6 => simp [mk_at]

section
variable {k : Nat} {os : List Nat} {P : List Nat → Bool} {asked : D}

theorem a_star (N : Nat) (ho : os.length ≤ 1000) : run (Φs (k + 1)) (N + 10) [aStar] (mk (stA asked os P (.val starD))) = some (mk (stA asked os (anySuf P) (.val starD)), .nxt) := by
  have hlen : (((sufs os).map P).map D.bool).length = os.length + 1 := by simp [sufs_len]
  have e : evm (Φs (k + 1)) .strict (.compr 5 [2] (.cmp .In (.bool true) (.slc (.var 2) (.var 5) .none)) (.len (.var 2))) (mk (stA asked os P (.val starD))) = some (bsD (anySuf P) os) := by
    rw [e_compr]
    unfold stA bsD
    simp only [rE, List.isEmpty_nil, List.isEmpty_cons, Nat.reduceEqDiff, Nat.zero_le, beq_self_eq_true, Nat.reduceAdd, List.length_cons, List.length_nil, List.getElem?_cons_zero, List.getElem?_cons_succ, Option.getD_some, ↓reduceIte, and_self, true_and, and_true, ne_eq, not_false_eq_true, Nat.reduceLT, Nat.reduceLeDiff, decide_true, decide_false, Bool.or_false, Bool.false_or, Bool.not_true, Bool.not_false, len_l (show (((sufs os).map P).map D.bool).length ≤ 16777216 by omega), hlen]
    rw [compr_bool (f := fun p => anySuf P (os.drop p)) (by omega) ?_, sufs_range]
    intro i hi
    have hsl : slcE (.list (((sufs os).map P).map D.bool)) (.int (i : Int)) .none = some (.list (((sufs (os.drop i)).map P).map D.bool)) := by
      show slcD (.list _) (some (i : Int)) none = _
      have hlim : (((sufs os).map P).map D.bool).length ≤ lim := by rw [hlen]; unfold lim; omega
      simp only [slcD, if_pos hlim]
      congr 2
      have c1 : clipAt (((sufs os).map P).map D.bool).length (i : Int) = i := by
        have := clipAt_cast (((sufs os).map P).map D.bool).length (i : Int)
        rw [hlen] at this ⊢
        have hn : ¬ ((i : Int) < 0) := by omega
        simp only [hn, if_false] at this
        omega
      show ((((sufs os).map P).map D.bool).drop (clipAt _ (i : Int))).take ((((sufs os).map P).map D.bool).length - clipAt _ (i : Int)) = _
      rw [c1, List.take_of_length_le (by simp), ← List.map_drop, ← List.map_drop, sufs_drop os i (by omega)]
    rw [upd_inner1 rfl]
    simp only [rE, List.isEmpty_nil, List.isEmpty_cons, Nat.reduceEqDiff, Nat.zero_le, beq_self_eq_true, Nat.reduceAdd, List.length_cons, List.length_nil, List.getElem?_cons_zero, List.getElem?_cons_succ, Option.getD_some, ↓reduceIte, and_self, true_and, and_true, ne_eq, not_false_eq_true, Nat.reduceLT, Nat.reduceLeDiff, decide_true, decide_false, Bool.or_false, Bool.false_or, Bool.not_true, Bool.not_false, hsl, in_list', anyS_true, sufs_any, someO_s]
  unfold aStar
  rw [run_c, s_set, e]
  unfold stA
  simp only [rE, List.isEmpty_nil, List.isEmpty_cons, Nat.reduceEqDiff, Nat.zero_le, beq_self_eq_true, Nat.reduceAdd, List.length_cons, List.length_nil, List.getElem?_cons_zero, List.getElem?_cons_succ, Option.getD_some, ↓reduceIte, and_self, true_and, and_true, ne_eq, not_false_eq_true, Nat.reduceLT, Nat.reduceLeDiff, decide_true, decide_false, Bool.or_false, Bool.false_or, Bool.not_true, Bool.not_false, rR, putL, List.map_cons, List.map_nil, List.set_cons_zero, List.set_cons_succ]

noncomputable def stepI (it : Itm) (P : List Nat → Bool) : List Nat → Bool
  | [] => false
  | o :: t => hitF it o && P t
noncomputable def stepM (it : Itm) (P : List Nat → Bool) : List Nat → Bool := match it with
  | .star => anySuf P
  | it => stepI it P
theorem stepM_set {it : Itm} (h : it ≠ .star) : stepM it P = stepI it P := by
  cases it with
  | star => exact absurd rfl h
  | set => rfl
theorem M_step (it : Itm) (r : List Itm) : M (it :: r) = stepM it (M r) := by
  funext os
  cases it with
  | star => cases os <;> simp only [M, stepM]
  | set g e b =>
    cases os with
    | nil => rfl
    | cons o t => rfl

theorem a_item (N : Nat) (ho : os.length ≤ 1000) {it : Itm} (hs : it ≠ .star) : run (Φs (k + 1)) (N + 10) [aItem] (mk (stA asked os P (.val (enc it)))) = some (mk (stA asked os (stepI it P) (.val (enc it))), .nxt) := by
  have hlen : (os.map digD).length ≤ 16777216 := by simp; omega
  have hl2 : (os.map digD).length = os.length := by simp
  have e : evm (Φs (k + 1)) .strict (.compr 5 [2, 1, 3] (.and (.idx (.var 2) (.bin .Add (.var 5) (.int (1)))) (.call2 "_law_fits" (.var 3) (.idx (.var 1) (.var 5)))) (.len (.var 1))) (mk (stA asked os P (.val (enc it)))) = some (.list (((List.range os.length).map fun p => P (os.drop (p + 1)) && hitF it (os.getD p 0)).map D.bool)) := by
    rw [e_compr]
    unfold stA bsD
    simp only [rE, List.isEmpty_nil, List.isEmpty_cons, Nat.reduceEqDiff, Nat.zero_le, beq_self_eq_true, Nat.reduceAdd, List.length_cons, List.length_nil, List.getElem?_cons_zero, List.getElem?_cons_succ, Option.getD_some, ↓reduceIte, and_self, true_and, and_true, ne_eq, not_false_eq_true, Nat.reduceLT, Nat.reduceLeDiff, decide_true, decide_false, Bool.or_false, Bool.false_or, Bool.not_true, Bool.not_false, len_l hlen, hl2]
    rw [compr_bool (f := fun p => P (os.drop (p + 1)) && hitF it (os.getD p 0)) (by omega) ?_]
    intro i hi
    have x1 : (((sufs os).map P).map D.bool)[i + 1]? = some (.bool (P (os.drop (i + 1)))) := by
      rw [List.getElem?_map, List.getElem?_map, sufs_get os (i + 1) (by omega)]; rfl
    have x2 : (os.map digD)[i]? = some (.tup [.int ((os.getD i 0 % 64 : Nat) : Int), .bool (os.getD i 0 / 64 % 2 == 0)]) := by
      rw [List.getElem?_map, List.getD_eq_getElem?_getD, List.getElem?_eq_getElem hi]; rfl
    rw [upd_inner3 rfl]
    simp only [rE, List.isEmpty_nil, List.isEmpty_cons, Nat.reduceEqDiff, Nat.zero_le, beq_self_eq_true, Nat.reduceAdd, List.length_cons, List.length_nil, List.getElem?_cons_zero, List.getElem?_cons_succ, Option.getD_some, ↓reduceIte, and_self, true_and, and_true, ne_eq, not_false_eq_true, Nat.reduceLT, Nat.reduceLeDiff, decide_true, decide_false, Bool.or_false, Bool.false_or, Bool.not_true, Bool.not_false, idx_list' x1 (by omega), idx_list' x2 (by omega), fits_ok k hs, andS_b, someO_s]
    rfl
  have happ : ((List.range os.length).map fun p => P (os.drop (p + 1)) && hitF it (os.getD p 0)).map D.bool ++ [.bool false] = ((sufs os).map (stepI it P)).map D.bool := by
    rw [sufs_range, List.range_succ, List.map_append, List.map_append, List.map_cons, List.map_nil, List.map_cons, List.map_nil, List.drop_length]
    congr 2
    apply List.map_congr_left
    intro p hp
    have hp : p < os.length := by simpa using hp
    rw [List.drop_eq_getElem_cons hp, List.getD_eq_getElem?_getD, List.getElem?_eq_getElem hp]
    simp only [stepI, Option.getD_some, Bool.and_comm]
  have hll : (((List.range os.length).map fun p => P (os.drop (p + 1)) && hitF it (os.getD p 0)).map D.bool).length + (0 + 1) ≤ 16777216 := by simp; omega
  unfold aItem
  rw [run_c, s_set, e_bin, e]
  simp only [rE, List.isEmpty_nil, List.isEmpty_cons, Nat.reduceEqDiff, Nat.zero_le, beq_self_eq_true, Nat.reduceAdd, List.length_cons, List.length_nil, List.getElem?_cons_zero, List.getElem?_cons_succ, Option.getD_some, ↓reduceIte, and_self, true_and, and_true, ne_eq, not_false_eq_true, Nat.reduceLT, Nat.reduceLeDiff, decide_true, decide_false, Bool.or_false, Bool.false_or, Bool.not_true, Bool.not_false, l_add' (b := [.bool false]) hll, happ]
  unfold stA bsD
  simp only [rE, List.isEmpty_nil, List.isEmpty_cons, Nat.reduceEqDiff, Nat.zero_le, beq_self_eq_true, Nat.reduceAdd, List.length_cons, List.length_nil, List.getElem?_cons_zero, List.getElem?_cons_succ, Option.getD_some, ↓reduceIte, and_self, true_and, and_true, ne_eq, not_false_eq_true, Nat.reduceLT, Nat.reduceLeDiff, decide_true, decide_false, Bool.or_false, Bool.false_or, Bool.not_true, Bool.not_false, rR, putL, List.map_cons, List.map_nil, List.set_cons_zero, List.set_cons_succ]

theorem a_turn (N : Nat) (ho : os.length ≤ 1000) (it : Itm) {g3 : Gb} : run (Φs (k + 1)) (N + 11) aBody (put (mk (stA asked os P g3.s)) 3 (.val (enc it))) = some (mk (stA asked os (stepM it P) (.val (enc it))), .nxt) := by
  by_cases hs : it = .star
  · subst hs
    have e := a_star (k := k) (os := os) (P := P) (asked := asked) N ho
    unfold aBody
    unfold stA at *
    simp only [enc, starD] at e ⊢
    simp only [rE, List.isEmpty_nil, List.isEmpty_cons, Nat.reduceEqDiff, Nat.zero_le, beq_self_eq_true, Nat.reduceAdd, List.length_cons, List.length_nil, List.getElem?_cons_zero, List.getElem?_cons_succ, Option.getD_some, ↓reduceIte, and_self, true_and, and_true, ne_eq, not_false_eq_true, Nat.reduceLT, Nat.reduceLeDiff, decide_true, decide_false, Bool.or_false, Bool.false_or, Bool.not_true, Bool.not_false, rR, putL, List.map_cons, List.map_nil, List.set_cons_zero, List.set_cons_succ, enc, starD, e]
    rfl
  · have e := a_item (k := k) (os := os) (P := P) (asked := asked) N ho hs
    have eq : cmpD .Eq (enc it) (.str [97, 32, 115, 116, 97, 114]) = some (.bool false) := by
      cases it with
      | star => exact absurd rfl hs
      | set => rfl
    rw [stepM_set hs]
    unfold aBody
    unfold stA at *
    simp only [rE, List.isEmpty_nil, List.isEmpty_cons, Nat.reduceEqDiff, Nat.zero_le, beq_self_eq_true, Nat.reduceAdd, List.length_cons, List.length_nil, List.getElem?_cons_zero, List.getElem?_cons_succ, Option.getD_some, ↓reduceIte, and_self, true_and, and_true, ne_eq, not_false_eq_true, Nat.reduceLT, Nat.reduceLeDiff, decide_true, decide_false, Bool.or_false, Bool.false_or, Bool.not_true, Bool.not_false, rR, putL, List.map_cons, List.map_nil, List.set_cons_zero, List.set_cons_succ, eq, e]

theorem a_loop (N : Nat) (ho : os.length ≤ 1000) : ∀ (l : List Itm) (P : List Nat → Bool) (g3 : Gb), ∃ h3 : Gb, loopL (run (Φs (k + 1)) (N + 11) aBody) 3 (l.map enc) (mk (stA asked os P g3.s)) = some (mk (stA asked os (l.foldl (fun P it => stepM it P) P) h3.s), .nxt)
  | [], P, g3 => ⟨g3, by rw [List.map_nil, loopL_nil]; rfl⟩
  | it :: l, P, g3 => by
    obtain ⟨h3, e⟩ := a_loop N ho l (stepM it P) (.v (enc it))
    exact ⟨h3, by rw [List.map_cons, loopL_nxt (a_turn N ho it)]; exact e⟩

theorem M_foldr : ∀ its : List Itm, M its = its.foldr stepM List.isEmpty
  | [] => by funext os; cases os <;> rfl
  | it :: r => by rw [M_step, M_foldr r]; rfl

theorem bs_start : ∀ os : List Nat, (os.map digD).map (fun _ => D.bool false) ++ [.bool true] = ((sufs os).map List.isEmpty).map D.bool
  | [] => rfl
  | o :: t => by
    have := bs_start t
    simp only [List.map_cons, List.cons_append, sufs, List.isEmpty_cons]
    rw [← this]

theorem answers_ok (k : Nat) (its : List Itm) (os : List Nat) (hi : its.length ≤ 1000) (ho : os.length ≤ 1000) :
    Φs (k + 1 + 1) "_law_answers" [.list (its.map enc), .list (os.map digD)] = some (.list ((sufs os).map fun t => .bool (M its t))) := by
  rw [phi_answers]
  refine run_fnE 4 rfl ?_
  obtain ⟨h3, e⟩ := a_loop (k := k) (asked := .list (its.map enc)) (os := os) 1987 ho its.reverse List.isEmpty .u
  have hM : its.reverse.foldl (fun P it => stepM it P) List.isEmpty = M its := by
    rw [List.foldl_reverse, M_foldr]
  rw [hM] at e
  have gu : Gb.u.s = .un := rfl
  unfold stA at e
  simp only [gu, List.map_reverse] at e
  have hrev : revD (.list (its.map enc)) = some (.list (its.map enc).reverse) := if_pos (by
    have : (its.map enc).length ≤ 1000 := by simpa using hi
    unfold lim; omega)
  have hcomp : compE (fun _ => someO (some (D.bool false))) (some (.list (os.map digD))) = some (.list ((os.map digD).map fun _ => .bool false)) := compE_l (by simp; omega) coll_const
  have hs : ((os.map digD).map fun _ => D.bool false) ++ [.bool true] = ((sufs os).map List.isEmpty).map D.bool := bs_start os
  have hll : ((os.map digD).map fun _ => D.bool false).length + (0 + 1) ≤ 16777216 := by simp; omega
  have hres : (sufs os).map (fun t => D.bool (M its t)) = ((sufs os).map (M its)).map D.bool := by rw [List.map_map]; rfl
  have hfun : (fun d : D => someO (evm (Φs (k + 1)) .strict (.bool false) (upd (inner (mk [.val (.list (its.map enc)), .val (.list (os.map digD)), .un, .un, .un, .un]) []) 4 (.val d)))) = fun _ => someO (some (D.bool false)) := by
    funext d; rw [e_bool]
  rw [hres]
  unfold bsD at e
  generalize hA : its.map enc = A at *
  generalize hB : os.map digD = B at *
  refine retE (σ := ?_) ?_
  rotate_left
  · rw [code_answers_eq]
    simp only [List.replicate, List.map_cons, List.map_nil, List.cons_append, List.nil_append]
    simp only [rE, List.isEmpty_nil, List.isEmpty_cons, Nat.reduceEqDiff, Nat.zero_le, beq_self_eq_true, Nat.reduceAdd, List.length_cons, List.length_nil, List.getElem?_cons_zero, List.getElem?_cons_succ, Option.getD_some, ↓reduceIte, and_self, true_and, and_true, ne_eq, not_false_eq_true, Nat.reduceLT, Nat.reduceLeDiff, decide_true, decide_false, Bool.or_false, Bool.false_or, Bool.not_true, Bool.not_false, rR, putL, List.map_cons, List.map_nil, List.set_cons_zero, List.set_cons_succ, e_comp, hcomp, l_add' (b := [.bool true]) hll, hs, hrev, e_rev, kfor_s, e]
    rfl
end
end Mine
end

/-! U17 -/
section
open PySem PySem.W PyProof.Rows
set_option maxRecDepth 100000
set_option linter.unusedSimpArgs false
namespace Mine

theorem and63 (a : Nat) : Builtin.bitAnd (a : Int) 63 = ((a % 64 : Nat) : Int) := by
  rw [bitAnd_pp (by omega) (by decide), Int.toNat_natCast]
  congr 1
  exact Nat.and_two_pow_sub_one_eq_mod a 6
theorem and64_small : ((List.range 256).all fun o => (((o &&& 64 : Nat) : Int) != 0) == !(o / 64 % 2 == 0)) = true := by decide +kernel
theorem and64 {a : Nat} (h : a < 256) : (Builtin.bitAnd (a : Int) 64 != 0) = !(a / 64 % 2 == 0) := by
  rw [bitAnd_pp (by omega) (by decide), Int.toNat_natCast]
  have := List.all_eq_true.mp and64_small a (by simpa using h)
  exact beq_iff_eq.mp this
theorem or_low {v c : Nat} (hc : c < 64) : Builtin.bitOr ((v * 64 : Nat) : Int) (c : Int) = ((v * 64 + c : Nat) : Int) := by
  rw [bitOr_and, bitAnd_pp (by omega) (by omega), Int.toNat_natCast, Int.toNat_natCast]
  have h : v * 64 &&& c = 0 := by
    apply Nat.eq_of_testBit_eq
    intro i
    rw [Nat.testBit_and, Nat.zero_testBit]
    by_cases hi : 6 ≤ i
    · have : c.testBit i = false := Nat.testBit_lt_two_pow (Nat.lt_of_lt_of_le hc (Nat.pow_le_pow_right (by decide) hi : 2 ^ 6 ≤ 2 ^ i))
      rw [this, Bool.and_false]
    · have : (v * 64).testBit i = false := by
        rw [show v * 64 = v <<< 6 by rw [Nat.shiftLeft_eq], Nat.testBit_shiftLeft]
        simp [hi]
      rw [this, Bool.false_and]
  rw [h]
  omega

noncomputable def bitOn (o : Nat) : Bool := !(o / 64 % 2 == 0)
/-- a number's octets -/
noncomputable def Seg : List Nat → Prop
  | [] => False
  | [b] => bitOn b = false
  | b :: b' :: l => bitOn b = true ∧ Seg (b' :: l)
noncomputable def num (v : Nat) (l : List Nat) : Nat := l.foldl (fun v o => v * 64 + o % 64) v
theorem num_cons {v o l} : num v (o :: l) = num (v * 64 + o % 64) l := rfl
theorem num_add : ∀ (l : List Nat) (v : Nat), num v l = v * 64 ^ l.length + num 0 l
  | [], v => by simp [num]
  | o :: l, v => by
    rw [num_cons, num_cons, num_add l (v * 64 + o % 64), num_add l (0 * 64 + o % 64), List.length_cons, Nat.pow_succ]
    have : (v * 64 + o % 64) * 64 ^ l.length = v * (64 ^ l.length * 64) + (0 * 64 + o % 64) * 64 ^ l.length := by
      rw [Nat.add_mul, Nat.mul_assoc v, Nat.mul_comm 64, Nat.zero_mul, Nat.zero_add]
    omega
theorem num_lt : ∀ l : List Nat, num 0 l < 64 ^ l.length
  | [] => by simp [num]
  | o :: l => by
    have ih := num_lt l
    rw [num_cons, num_add, Nat.zero_mul, Nat.zero_add, List.length_cons, Nat.pow_succ]
    have : o % 64 < 64 := Nat.mod_lt _ (by decide)
    have h2 : o % 64 * 64 ^ l.length ≤ 63 * 64 ^ l.length := Nat.mul_le_mul_right _ (by omega)
    omega
theorem num_dig {l1 l2 : List Nat} {o : Nat} : num 0 (l1 ++ o :: l2) / 64 ^ l2.length % 64 = o % 64 := by
  have e : num 0 (l1 ++ o :: l2) = num (num 0 l1 * 64 + o % 64) l2 := by
    unfold num; rw [List.foldl_append, List.foldl_cons]
  rw [e, num_add, Nat.mul_comm, Nat.mul_add_div (Nat.pow_pos (by decide)), Nat.div_eq_of_lt (num_lt l2), Nat.add_zero, Nat.mul_comm, Nat.mul_add_mod]
  omega

theorem inp_shl {a b : Int} : inpD .LShift (.int a) (.int b) = if 0 ≤ b ∧ b < 1000 ∧ -18446744073709551616 < a ∧ a < 18446744073709551616 then some (.int (a * 2 ^ b.toNat)) else none := id rfl
theorem shl6 {v : Nat} (h : v < 18446744073709551616) : inpD .LShift (.int (v : Int)) (.int 6) = some (.int ((v * 64 : Nat) : Int)) := by
  rw [inp_shl, if_pos ⟨by decide, by decide, by omega, by omega⟩]
  have e : (v : Int) * 2 ^ (6 : Int).toNat = ((v * 64 : Nat) : Int) := by
    rw [show (2 : Int) ^ (6 : Int).toNat = 64 by decide, Int.natCast_mul]; rfl
  rw [e]
noncomputable def intD (o : Nat) : D := .int (o : Int)

theorem tru_int {i : Int} {b : Bool} (h : (i != 0) = b) : truD (.int i) = some b := by rw [← h]; rfl
theorem band_int {a b : Int} : binD .BitAnd (.int a) (.int b) = some (.int (Builtin.bitAnd a b)) := id rfl
theorem bor_int {a b : Int} : inpD .BitOr (.int a) (.int b) = some (.int (Builtin.bitOr a b)) := id rfl
theorem pvL_stop {b v : D} {l : List D} {t : D} (h1 : binD .BitAnd b (.int 64) = some t) (h2 : truD t = some false) : pvL b v l = some (v, l) := by
  have z : ∀ {y q}, pvT b y q = q := fun {y q} => (congrArg (pvO fun t => pvB y q (truD t)) h1).trans (congrArg (pvB y q) h2)
  cases l <;> exact z
theorem pvL_next {b v c v1 c1 v2 : D} {l : List D} {t : D} (h1 : binD .BitAnd b (.int 64) = some t) (h2 : truD t = some true) (h3 : inpD .LShift v (.int 6) = some v1) (h4 : binD .BitAnd c (.int 63) = some c1) (h5 : inpD .BitOr v1 c1 = some v2) : pvL b v (c :: l) = pvL c v2 l := by
  exact (congrArg (pvO _) h1).trans ((congrArg (pvB _ _) h2).trans ((congrArg (pvO _) h3).trans ((congrArg (pvO _) h4).trans (congrArg (pvO _) h5))))

theorem pvL_seg : ∀ (l : List Nat) (b v j : Nat) (rest : List Nat), (∀ o ∈ b :: l, o < 256) → Seg (b :: l) → v < 64 ^ j → j + l.length ≤ 10 → pvL (intD b) (.int (v : Int)) ((l ++ rest).map intD) = some (.int ((num v l : Nat) : Int), rest.map intD)
  | [], b, v, j, rest, ho, hs, hv, hj => by
    have hb := and64 (ho b (by simp))
    have hs : bitOn b = false := hs
    unfold bitOn at hs
    rw [hs] at hb
    exact pvL_stop band_int (tru_int hb)
  | c :: l, b, v, j, rest, ho, hs, hv, hj => by
    have hb := and64 (ho b (by simp))
    obtain ⟨hs1, hs2⟩ := hs
    unfold bitOn at hs1
    rw [hs1] at hb
    have hv64 : v < 18446744073709551616 := by
      have h9 : j ≤ 9 := by simp at hj; omega
      have := Nat.lt_of_lt_of_le hv (Nat.pow_le_pow_right (by decide) h9)
      rw [show (64 : Nat) ^ 9 = 18014398509481984 by decide] at this
      omega
    have hc : Builtin.bitAnd (c : Int) 63 = ((c % 64 : Nat) : Int) := and63 c
    have hv2 : v * 64 + c % 64 < 64 ^ (j + 1) := by
      rw [Nat.pow_succ]
      have := Nat.mod_lt c (show 0 < 64 by decide)
      omega
    have ih := pvL_seg l c (v * 64 + c % 64) (j + 1) rest (fun o h => ho o (List.mem_cons_of_mem _ h)) hs2 hv2 (by simp at hj; omega)
    rw [List.cons_append, List.map_cons]
    show pvL (.int (b : Int)) (.int (v : Int)) (.int (c : Int) :: (l ++ rest).map intD) = _
    rw [pvL_next band_int (tru_int hb) (shl6 hv64) band_int (by rw [hc]; exact bor_int), or_low (Nat.mod_lt _ (by decide)), num_cons]
    exact ih
theorem pv_seg {b : Nat} {l rest : List Nat} (ho : ∀ o ∈ b :: l, o < 256) (hs : Seg (b :: l)) (hl : l.length ≤ 9) : pv (((b :: l) ++ rest).map intD) = some (.int ((num 0 (b :: l) : Nat) : Int), rest.map intD) := by
  have hc : binD .BitAnd (intD b) (.int 63) = some (.int ((b % 64 : Nat) : Int)) := by
    show some (D.int (Builtin.bitAnd (b : Int) 63)) = _
    rw [and63]
  rw [List.cons_append, List.map_cons]
  refine (congrArg (pvO fun v => pvL (intD b) v ((l ++ rest).map intD)) hc).trans ?_
  rw [num_cons, Nat.zero_mul, Nat.zero_add]
  exact pvL_seg l b (b % 64) 1 rest ho hs (Nat.mod_lt _ (by decide)) (by omega)
end Mine
end

/-! U18 -/
section
open PySem PySem.W PyProof.Rows
set_option maxRecDepth 100000
set_option linter.unusedSimpArgs false
set_option linter.unusedVariables false
namespace Mine

noncomputable def dE1 : E := .slc (.var 0) (.len (.var 1)) .none
noncomputable def dE3 : E := .bin .Sub (.len (.var 0)) (.len (.var 1))
noncomputable def dApp : List S := [.app 1 (.tup2 (.bin .Mod (.bin .FloorDiv (.var 4) (.bin .Pow (.int (64)) (.bin .Sub (.bin .Sub (.var 5) (.int (1))) (.var 6)))) (.int (64))) (.cmp .Eq (.var 6) (.bin .Sub (.var 5) (.int (1)))))]
noncomputable def dBody : List S := [.ife (.cmp .Lt (.len (.var 1)) (.len (.var 0))) [.spec (threeF no dE1 dE3 3 4 5),
  .ife (.cmp .NotEq (.bin .FloorDiv (.var 4) (.bin .Pow (.int (64)) (.var 5))) (.int (0))) [.ret .lst0] [],
  .forr 6 (.var 5) dApp] []]
theorem code_digits_eq : code_law_digits = [.own0 1, .forr 2 (.len (.var 0)) dBody, .frz 1, .ret (.var 1)] := rfl

theorem threeF_mk {l : List SV} {e1 e3 : E} {L r : List D} {v : D} {m : Int} {xl xn xs : Nat} (h1 : evm no .strict e1 (mk l) = some (.list L)) (hl : L.length ≤ 16777216) (hs : ∀ d ∈ L, scal d = true) (hp : pv L = some (v, r))
    (h3 : evm no .strict e3 (put (put (mk l) xl .un) xn (.val v)) = some (.int m)) (hr : r.length ≤ 16777216) : threeF no e1 e3 xl xn xs (mk l) = some (put (put (put (mk l) xl .un) xn (.val v)) xs (.val (.int (m - r.length)))) := by
  have hl' : L.length ≤ lim := hl
  have hr' : r.length ≤ lim := hr
  exact (congrArg (sL _) h1).trans ((if_pos (show L.length ≤ lim ∧ (∀ d ∈ L, scal d = true) from ⟨hl', hs⟩)).trans ((congrArg (sP _) hp).trans ((congrArg (sI _) h3).trans (if_pos hr'))))

noncomputable def stD (os : List Nat) (ds : List D) (g2 g3 g4 g5 g6 : SV) : List SV := [.val (.list (os.map intD)), .own ds, g2, g3, g4, g5, g6]

section
variable {os : List Nat} {ds : List D} {k : Nat}

theorem slc_list {l : List D} {p : Nat} (hp : p ≤ l.length) (h : l.length ≤ 16777216) : slcE (.list l) (.int (p : Int)) .none = some (.list (l.drop p)) := by
  show slcD (.list l) (some (p : Int)) none = _
  have hlim : l.length ≤ lim := h
  simp only [slcD, if_pos hlim]
  congr 2
  have c1 : clipAt l.length (p : Int) = p := by
    have := clipAt_cast l.length (p : Int)
    have hn : ¬ ((p : Int) < 0) := by omega
    simp only [hn, if_false] at this
    omega
  show (l.drop (clipAt _ (p : Int))).take (l.length - clipAt _ (p : Int)) = _
  rw [c1, List.take_of_length_le (by simp)]

/-- a digit is laid -/
theorem d_app (N : Nat) {n s i : Nat} {l1 l2 : List Nat} {o : Nat} {g2 g6 : Gb} (hn : n = num 0 (l1 ++ o :: l2)) (hi : i = l1.length) (hs : s = i + 1 + l2.length) (hsm : s ≤ 10) (hb : (o / 64 % 2 == 0) = (i == s - 1)) (hd : ds.length ≤ 1000000) :
    run (Φs k) (N + 5) dApp (put (mk (stD os ds g2.s .un (.val (.int (n : Int))) (.val (.int (s : Int))) g6.s)) 6 (.val (.int (i : Int)))) = some (mk (stD os (ds ++ [digD o]) g2.s .un (.val (.int (n : Int))) (.val (.int (s : Int))) (.val (.int (i : Int)))), .nxt) := by
  have h1 : (1 : Nat) ≤ s := by omega
  have h2 : i ≤ s - 1 := by omega
  have h3 : s - 1 - i < 1000 := by omega
  have h4 : 0 < 64 ^ (s - 1 - i) := Nat.pow_pos (by decide)
  have h5 : 64 ^ (s - 1 - i) < 18446744073709551616 := Nat.lt_of_le_of_lt (Nat.pow_le_pow_right (by decide) (show s - 1 - i ≤ 10 by omega)) (by decide)
  have h6 : n / 64 ^ (s - 1 - i) % 64 = o % 64 := by
    have : s - 1 - i = l2.length := by omega
    rw [this, hn]; exact num_dig
  have h7 : ds.length ≤ 16777216 := by omega
  unfold dApp stD digD
  simp only [rE, List.isEmpty_nil, List.isEmpty_cons, Nat.reduceEqDiff, Nat.zero_le, beq_self_eq_true, Nat.reduceAdd, List.length_cons, List.length_nil, List.getElem?_cons_zero, List.getElem?_cons_succ, Option.getD_some, ↓reduceIte, and_self, true_and, and_true, ne_eq, not_false_eq_true, Nat.reduceLT, Nat.reduceLeDiff, decide_true, decide_false, Bool.or_false, Bool.false_or, Bool.not_true, Bool.not_false, rR, putL, List.map_cons, List.map_nil, List.set_cons_zero, List.set_cons_succ, n_sub h1, n_sub h2, n_pow h3, n_fdv h4 h5, h6, h7, hb]

theorem seg_bit : ∀ (l1 l2 : List Nat) (o : Nat), Seg (l1 ++ o :: l2) → bitOn o = !(l2.isEmpty)
  | [], [], o, h => h
  | [], x :: l2, o, h => h.1
  | [y], l2, o, h => seg_bit [] l2 o h.2
  | y :: z :: l1, l2, o, h => seg_bit (z :: l1) l2 o h.2

theorem d_loop (N : Nat) {n : Nat} {seg : List Nat} {g2 : Gb} (hn : n = num 0 seg) (hs : Seg seg) (hsm : seg.length ≤ 10) : ∀ (l2 l1 : List Nat) (ds : List D) (g6 : Gb), seg = l1 ++ l2 → ds.length + l2.length ≤ 1000000 →
    ∃ h6 : Gb, loopL (run (Φs k) (N + 5) dApp) 6 ((List.range' l1.length l2.length).map fun j : Nat => D.int (j : Int)) (mk (stD os ds g2.s .un (.val (.int (n : Int))) (.val (.int (seg.length : Int))) g6.s)) = some (mk (stD os (ds ++ l2.map digD) g2.s .un (.val (.int (n : Int))) (.val (.int (seg.length : Int))) h6.s), .nxt)
  | [], l1, ds, g6, he, hd => ⟨g6, by simp [loopL]⟩
  | o :: l2, l1, ds, g6, he, hd => by
    have hlen : seg.length = l1.length + 1 + l2.length := by rw [he, List.length_append, List.length_cons]; omega
    have hbit := seg_bit l1 l2 o (he ▸ hs)
    have hb : (o / 64 % 2 == 0) = (l1.length == seg.length - 1) := by
      have e : (o / 64 % 2 == 0) = l2.isEmpty := by
        unfold bitOn at hbit
        cases h : (o / 64 % 2 == 0) <;> cases h2 : l2.isEmpty <;> rw [h, h2] at hbit <;> first | rfl | cases hbit
      rw [e]
      cases l2 with
      | nil => simp at hlen ⊢; omega
      | cons x l2 => simp at hlen ⊢; omega
    have e1 := d_app (os := os) (ds := ds) (k := k) (g2 := g2) (g6 := g6) N (hn.trans (by rw [he])) rfl hlen hsm hb (by simp at hd; omega)
    obtain ⟨h6, e2⟩ := d_loop N hn hs hsm l2 (l1 ++ [o]) (ds ++ [digD o]) (.v (.int (l1.length : Int))) (by rw [he]; simp) (by simp at hd ⊢; omega)
    refine ⟨h6, ?_⟩
    rw [List.length_cons, List.range'_succ, List.map_cons, loopL_nxt e1]
    rw [List.length_append, List.length_singleton] at e2
    rw [List.map_cons]
    rw [List.append_assoc] at e2
    exact e2

/-- one turn of the outer loop: a number is read -/
theorem d_turn (N : Nat) {done seg rest : List Nat} {g2 g3 g4 g5 g6 : Gb} (ho : os = done ++ (seg ++ rest)) (h256 : ∀ o ∈ os, o < 256) (hs : Seg seg) (hsm : seg.length ≤ 10) (hl : os.length ≤ 1000) {x : D} :
    ∃ h6 : Gb, run (Φs k) (N + 20) dBody (put (mk (stD os (done.map digD) g2.s g3.s g4.s g5.s g6.s)) 2 (.val x)) = some (mk (stD os ((done ++ seg).map digD) (.val x) .un (.val (.int (num 0 seg : Int))) (.val (.int (seg.length : Int))) h6.s), .nxt) := by
  obtain ⟨b, l, rfl⟩ : ∃ b l, seg = b :: l := by
    cases seg with
    | nil => exact hs.elim
    | cons b l => exact ⟨b, l, rfl⟩
  have hlen : os.length = done.length + ((b :: l).length + rest.length) := by rw [ho, List.length_append, List.length_append]
  have hlt : (done.map digD).length < (os.map intD).length := by simp at hlen ⊢; omega
  have h16 : (os.map intD).length ≤ 16777216 := by simp; omega
  have h16d : (done.map digD).length ≤ 16777216 := by simp; omega
  have hdrop : (os.map intD).drop (done.map digD).length = ((b :: l) ++ rest).map intD := by
    rw [← List.map_drop, List.length_map, ho, List.drop_left]
  have hpv := pv_seg (b := b) (l := l) (rest := rest) (fun o h => h256 o (by rw [ho]; exact List.mem_append_right _ (List.mem_append_left _ h))) hs (by simp at hsm; omega)
  have hsub : (done.map digD).length ≤ (os.map intD).length := by omega
  have e3 : threeF no dE1 dE3 3 4 5 (mk (stD os (done.map digD) (.val x) g3.s g4.s g5.s g6.s)) = some (mk (stD os (done.map digD) (.val x) .un (.val (.int (num 0 (b :: l) : Int))) (.val (.int ((b :: l).length : Int))) g6.s)) := by
    rw [threeF_mk (L := ((b :: l) ++ rest).map intD) (r := rest.map intD) (v := .int ((num 0 (b :: l) : Nat) : Int)) (m := (((os.map intD).length - (done.map digD).length : Nat) : Int)) ?_ ?_ ?_ hpv ?_ ?_]
    · have em : ((((os.map intD).length - (done.map digD).length : Nat) : Int) - ((rest.map intD).length : Int)) = (((b :: l).length : Nat) : Int) := by
        simp only [List.length_map]
        omega
      rw [em]
      unfold stD
      simp only [rE, List.isEmpty_nil, List.isEmpty_cons, Nat.reduceEqDiff, Nat.zero_le, beq_self_eq_true, Nat.reduceAdd, List.length_cons, List.length_nil, List.getElem?_cons_zero, List.getElem?_cons_succ, Option.getD_some, ↓reduceIte, and_self, true_and, and_true, ne_eq, not_false_eq_true, Nat.reduceLT, Nat.reduceLeDiff, decide_true, decide_false, Bool.or_false, Bool.false_or, Bool.not_true, Bool.not_false, rR, putL, List.map_cons, List.map_nil, List.set_cons_zero, List.set_cons_succ]
    · unfold dE1 stD
      simp only [rE, List.isEmpty_nil, List.isEmpty_cons, Nat.reduceEqDiff, Nat.zero_le, beq_self_eq_true, Nat.reduceAdd, List.length_cons, List.length_nil, List.getElem?_cons_zero, List.getElem?_cons_succ, Option.getD_some, ↓reduceIte, and_self, true_and, and_true, ne_eq, not_false_eq_true, Nat.reduceLT, Nat.reduceLeDiff, decide_true, decide_false, Bool.or_false, Bool.false_or, Bool.not_true, Bool.not_false, len_l h16d, slc_list hsub h16, hdrop]
    · simp only [List.length_map, List.length_append]; omega
    · intro d hd
      obtain ⟨o, _, rfl⟩ := List.mem_map.mp hd
      rfl
    · unfold dE3 stD
      simp only [rE, List.isEmpty_nil, List.isEmpty_cons, Nat.reduceEqDiff, Nat.zero_le, beq_self_eq_true, Nat.reduceAdd, List.length_cons, List.length_nil, List.getElem?_cons_zero, List.getElem?_cons_succ, Option.getD_some, ↓reduceIte, and_self, true_and, and_true, ne_eq, not_false_eq_true, Nat.reduceLT, Nat.reduceLeDiff, decide_true, decide_false, Bool.or_false, Bool.false_or, Bool.not_true, Bool.not_false, rR, putL, List.map_cons, List.map_nil, List.set_cons_zero, List.set_cons_succ, len_l h16d, len_l h16, n_sub hsub]
    · simp only [List.length_map]; omega
  have hzero : num 0 (b :: l) / 64 ^ (b :: l).length = 0 := Nat.div_eq_of_lt (num_lt _)
  have h4 : 0 < 64 ^ (b :: l).length := Nat.pow_pos (by decide)
  have h5 : 64 ^ (b :: l).length < 18446744073709551616 := Nat.lt_of_le_of_lt (Nat.pow_le_pow_right (by decide) hsm) (by decide)
  obtain ⟨h6, e6⟩ := d_loop (os := os) (k := k) (N + 11) (g2 := .v x) rfl hs hsm (b :: l) [] (done.map digD) g6 rfl (by simp only [List.length_map]; omega)
  rw [List.length_nil, ← List.range_eq_range'] at e6
  have hr : rangeL (((b :: l).length : Nat) : Int) = (List.range (b :: l).length).map fun j : Nat => D.int (j : Int) := by
    unfold rangeL
    rw [Int.toNat_natCast]
  rw [← hr] at e6
  have hk : 0 ≤ (((b :: l).length : Nat) : Int) ∧ (((b :: l).length : Nat) : Int) ≤ 1000000 := by omega
  have h3 : (b :: l).length < 1000 := by omega
  refine ⟨h6, ?_⟩
  rw [List.map_append]
  have e00 : ((0 : Nat) != 0) = false := rfl
  generalize (b :: l).length = s at *
  generalize hG : num 0 (b :: l) = nn at *
  unfold dBody
  unfold stD at *
  have gv : (Gb.v x).s = .val x := rfl
  rw [gv] at e6
  simp only [rE, List.isEmpty_nil, List.isEmpty_cons, Nat.reduceEqDiff, Nat.zero_le, beq_self_eq_true, Nat.reduceAdd, List.length_cons, List.length_nil, List.getElem?_cons_zero, List.getElem?_cons_succ, Option.getD_some, ↓reduceIte, and_self, true_and, and_true, ne_eq, not_false_eq_true, Nat.reduceLT, Nat.reduceLeDiff, decide_true, decide_false, Bool.or_false, Bool.false_or, Bool.not_true, Bool.not_false, rR, putL, List.map_cons, List.map_nil, List.set_cons_zero, List.set_cons_succ, len_l h16d, len_l h16, hlt, e3, n_pow h3, n_fdv h4 h5, hzero, e00, kforr_s hk, e6]

theorem d_idle (N : Nat) {g2 g3 g4 g5 g6 : Gb} (hl : os.length ≤ 1000) {x : D} :
    run (Φs k) (N + 20) dBody (put (mk (stD os (os.map digD) g2.s g3.s g4.s g5.s g6.s)) 2 (.val x)) = some (mk (stD os (os.map digD) (.val x) g3.s g4.s g5.s g6.s), .nxt) := by
  have h16 : (os.map intD).length ≤ 16777216 := by simp; omega
  have h16d : (os.map digD).length ≤ 16777216 := by simp; omega
  have hlt : ¬ (os.map digD).length < (os.map intD).length := by simp
  unfold dBody
  unfold stD at *
  simp only [rE, List.isEmpty_nil, List.isEmpty_cons, Nat.reduceEqDiff, Nat.zero_le, beq_self_eq_true, Nat.reduceAdd, List.length_cons, List.length_nil, List.getElem?_cons_zero, List.getElem?_cons_succ, Option.getD_some, ↓reduceIte, and_self, true_and, and_true, ne_eq, not_false_eq_true, Nat.reduceLT, Nat.reduceLeDiff, decide_true, decide_false, Bool.or_false, Bool.false_or, Bool.not_true, Bool.not_false, rR, putL, List.map_cons, List.map_nil, List.set_cons_zero, List.set_cons_succ, len_l h16d, len_l h16, hlt]

/-- the last octet ends a number -/
noncomputable def EndC : List Nat → Prop
  | [] => True
  | [b] => bitOn b = false
  | _ :: b :: l => EndC (b :: l)
theorem endC_split : ∀ (l : List Nat) (b : Nat), EndC (b :: l) → ∃ seg rest, b :: l = seg ++ rest ∧ Seg seg ∧ EndC rest
  | [], b, h => ⟨[b], [], rfl, h, trivial⟩
  | c :: l, b, h => by
    cases hb : bitOn b with
    | false => exact ⟨[b], c :: l, rfl, hb, h⟩
    | true =>
      obtain ⟨seg, rest, e, hs, he⟩ := endC_split l c h
      cases seg with
      | nil => exact hs.elim
      | cons d seg => 
        refine ⟨b :: d :: seg, rest, by rw [e]; rfl, ⟨hb, hs⟩, he⟩

theorem d_outer (N : Nat) (h256 : ∀ o ∈ os, o < 256) (hl : os.length ≤ 10) : ∀ (xs : List D) (done todo : List Nat) (g2 g3 g4 g5 g6 : Gb), os = done ++ todo → EndC todo → todo.length ≤ xs.length →
    ∃ h2 h3 h4 h5 h6 : Gb, loopL (run (Φs k) (N + 20) dBody) 2 xs (mk (stD os (done.map digD) g2.s g3.s g4.s g5.s g6.s)) = some (mk (stD os (os.map digD) h2.s h3.s h4.s h5.s h6.s), .nxt)
  | [], done, todo, g2, g3, g4, g5, g6, ho, he, hx => by
    have : todo = [] := by simpa using hx
    subst this
    rw [List.append_nil] at ho
    subst ho
    exact ⟨g2, g3, g4, g5, g6, by rw [loopL_nil]⟩
  | x :: xs, done, [], g2, g3, g4, g5, g6, ho, he, hx => by
    rw [List.append_nil] at ho
    subst ho
    obtain ⟨h2, h3, h4, h5, h6, e⟩ := d_outer N h256 hl xs os [] (.v x) g3 g4 g5 g6 (by simp) trivial (by simp)
    exact ⟨h2, h3, h4, h5, h6, by rw [loopL_nxt (d_idle N (by omega))]; exact e⟩
  | x :: xs, done, b :: l, g2, g3, g4, g5, g6, ho, he, hx => by
    obtain ⟨seg, rest, e, hs, her⟩ := endC_split l b he
    rw [e] at ho
    have hsl : seg.length ≤ 10 := by
      have := congrArg List.length ho
      simp at this; omega
    have h1 : 0 < seg.length := by
      cases seg with
      | nil => exact hs.elim
      | cons => simp
    obtain ⟨h6, e1⟩ := d_turn (k := k) (g2 := g2) (g3 := g3) (g4 := g4) (g5 := g5) (g6 := g6) N ho h256 hs hsl (by omega) (x := x)
    have hrl : rest.length ≤ xs.length := by
      have := congrArg List.length e
      simp at this hx; omega
    obtain ⟨a2, a3, a4, a5, a6, e2⟩ := d_outer N h256 hl xs (done ++ seg) rest (.v x) .u (.v (.int (num 0 seg : Int))) (.v (.int (seg.length : Int))) h6 (by rw [ho, List.append_assoc]) her hrl
    exact ⟨a2, a3, a4, a5, a6, by rw [loopL_nxt e1]; exact e2⟩

theorem digits_ok (k : Nat) (os : List Nat) (h256 : ∀ o ∈ os, o < 256) (hl : os.length ≤ 10) (he : EndC os) : Φs (k + 1) "_law_digits" [.list (os.map intD)] = some (.list (os.map digD)) := by
  rw [phi_digits]
  refine run_fnE 6 rfl ?_
  have h16 : (os.map intD).length ≤ 16777216 := by simp; omega
  have hk : 0 ≤ (((os.map intD).length : Nat) : Int) ∧ (((os.map intD).length : Nat) : Int) ≤ 1000000 := by simp; omega
  have hrl : (rangeL (((os.map intD).length : Nat) : Int)).length = os.length := by unfold rangeL; simp
  obtain ⟨h2, h3, h4, h5, h6, e⟩ := d_outer (k := k) 1978 h256 hl (rangeL (((os.map intD).length : Nat) : Int)) [] os .u .u .u .u .u rfl he (by omega)
  have gu : Gb.u.s = .un := rfl
  unfold stD at e
  simp only [gu, List.map_nil] at e
  generalize os.map digD = B at *
  generalize os.map intD = A at *
  refine retE (σ := ?_) ?_
  rotate_left
  · rw [code_digits_eq]
    simp only [List.replicate, List.map_cons, List.map_nil, List.cons_append, List.nil_append]
    simp only [rE, List.isEmpty_nil, List.isEmpty_cons, Nat.reduceEqDiff, Nat.zero_le, beq_self_eq_true, Nat.reduceAdd, List.length_cons, List.length_nil, List.getElem?_cons_zero, List.getElem?_cons_succ, Option.getD_some, ↓reduceIte, and_self, true_and, and_true, ne_eq, not_false_eq_true, Nat.reduceLT, Nat.reduceLeDiff, decide_true, decide_false, Bool.or_false, Bool.false_or, Bool.not_true, Bool.not_false, rR, putL, List.map_cons, List.map_nil, List.set_cons_zero, List.set_cons_succ, len_l h16, kforr_s hk, e]
    rfl
end
end Mine
end

/-! U19 -/
section
open PySem PySem.W PyProof.Rows
set_option maxRecDepth 100000
set_option linter.unusedSimpArgs false
set_option linter.unusedVariables false
namespace Mine

/-! the sets say what the question says -/
noncomputable def hA (g : Nat) : Bool := [false, true].all fun e => [0, 128].all fun k => (octOf g e + k) % 64 == g && ((octOf g e + k) / 64 % 2 == 0) == e
theorem hA_all : ((List.range 64).all hA) = true := by decide +kernel
noncomputable def hB (o : Nat) : Bool := (decide (o = octOf (o % 64) (o / 64 % 2 == 0) + 128) || decide (o = octOf (o % 64) (o / 64 % 2 == 0)))
theorem hB_all : ((List.range 256).all hB) = true := by decide +kernel
noncomputable def hC (o : Nat) : Bool := [false, true].all fun e => ((prs (.set none (some e) false)).any (inR o)) == ((o / 64 % 2 == 0) == e)
theorem hC_all : ((List.range 256).all hC) = true := by decide +kernel
theorem all_at {f : Nat → Bool} {n i : Nat} (h : ((List.range n).all f) = true) (hi : i < n) : f i = true := List.all_eq_true.mp h i (List.mem_range.mpr hi)
theorem two_at {f : Bool → Bool} (h : [false, true].all f = true) (b : Bool) : f b = true := by
  cases b with
  | false => exact (and_i h).1
  | true => exact (and_i (and_i h).2).1

theorem inR_one {o x : Nat} : inR o (x, x) = decide (o = x) := by
  unfold inR
  rw [← Bool.decide_and]
  exact decide_eq_decide.mpr ⟨fun h => Nat.le_antisymm h.2 h.1, fun h => ⟨Nat.le_of_eq h.symm, Nat.le_of_eq h⟩⟩
theorem oct_iff {g o : Nat} {e : Bool} (hg : g < 64) (ho : o < 256) : (decide (o = octOf g e + 128) || decide (o = octOf g e)) = (o % 64 == g && (o / 64 % 2 == 0) == e) := by
  have ha := two_at (all_at hA_all hg) e
  rw [Bool.eq_iff_iff]
  constructor
  · intro h
    rcases Bool.or_eq_true_iff.mp h with h | h
    · rw [of_decide_eq_true h]; exact (and_i (and_i ha).2).1
    · rw [of_decide_eq_true h]; exact (and_i ha).1
  · intro h
    have hb := all_at hB_all ho
    unfold hB at hb
    rwa [eq_of_beq (and_i h).1, eq_of_beq (and_i h).2] at hb
theorem prsO_any {x o : Nat} : (prsO x).any (inR o) = (decide (o = x + 128) || decide (o = x)) := by
  unfold prsO
  by_cases h : x = 93
  · rw [if_pos h, h]
    show (inR o (93, 93) || (inR o (221, 221) || false)) = _
    rw [inR_one, inR_one, Bool.or_false, Bool.or_comm]
  · rw [if_neg h]
    show (inR o (x + 128, x + 128) || (inR o (x, x) || false)) = _
    rw [inR_one, inR_one, Bool.or_false]
theorem hit_eq {it : Itm} {o : Nat} (ok : okI it = true) (hs : it ≠ .star) (ho : o < 256) : hitP it o = hitF it o := by
  cases it with
  | star => exact absurd rfl hs
  | set g e b =>
    have key : ∀ {x y : Bool}, x = y → (x != b) = (y != b) := fun h => h ▸ rfl
    cases g with
    | none => cases e with
      | none => exact key (by show (inR o (0, 255) || false) = true; rw [Bool.or_false]; exact Bool.and_eq_true_iff.mpr ⟨rfl, decide_eq_true (Nat.le_of_lt_succ ho)⟩)
      | some e => cases e with
        | false => exact key (eq_of_beq (two_at (all_at hC_all ho) false))
        | true => exact key (eq_of_beq (two_at (all_at hC_all ho) true))
    | some g => cases e with
      | none => exact Bool.noConfusion ok
      | some e => exact key (prsO_any.trans (oct_iff (of_decide_eq_true ok) ho))

/-! greedy laying -/
theorem anySuf_iff {P : List Nat → Bool} : ∀ {os : List Nat}, anySuf P os = true ↔ ∃ m, P (os.drop m) = true
  | [] => by simp [anySuf]
  | o :: t => by
    rw [anySuf, Bool.or_eq_true, anySuf_iff (os := t)]
    constructor
    · rintro (h | ⟨m, h⟩)
      · exact ⟨0, h⟩
      · exact ⟨m + 1, h⟩
    · rintro ⟨m, h⟩
      cases m with
      | zero => exact .inl h
      | succ m => exact .inr ⟨m, h⟩
theorem anySuf_mono {P : List Nat → Bool} {os : List Nat} {n : Nat} (h : anySuf P (os.drop n) = true) : anySuf P os = true := by
  obtain ⟨m, h⟩ := anySuf_iff.mp h
  rw [List.drop_drop] at h
  exact anySuf_iff.mpr ⟨_, h⟩
theorem anySuf_twice (P : List Nat → Bool) : anySuf (anySuf P) = anySuf P := by
  funext os
  rw [Bool.eq_iff_iff]
  constructor
  · intro h
    obtain ⟨m, h⟩ := anySuf_iff.mp h
    exact anySuf_mono h
  · intro h
    exact anySuf_iff.mpr ⟨0, h⟩

noncomputable def all256 (os : List Nat) : Prop := ∀ o ∈ os, o < 256
theorem all256_drop {os : List Nat} {n : Nat} (h : all256 os) : all256 (os.drop n) := fun o ho => h o (List.mem_of_mem_drop ho)

theorem M_pre {X : List Itm} : ∀ (f : List Itm) (os : List Nat), okS f → all256 os → M (f ++ X) os = (preB f os && M X (os.drop f.length))
  | [], os, hf, ho => by simp [preB]
  | it :: f, os, hf, ho => by
    obtain ⟨h1, h2⟩ := hf it (by simp)
    rw [List.cons_append, M_step, stepM_set h2]
    cases os with
    | nil => simp [stepI, preB]
    | cons o t =>
      simp only [stepI, preB, List.length_cons, List.drop_succ_cons]
      rw [M_pre f t (fun x hx => hf x (by simp [hx])) (fun x hx => ho x (by simp [hx])), hit_eq h1 h2 (ho o (by simp)), Bool.and_assoc]

noncomputable def flat (R : List (List Itm)) : List Itm := R.flatMap fun g => .star :: g
noncomputable def MS (R : List (List Itm)) : List Nat → Bool := M (flat R)
theorem flat_cons {g : List Itm} {R : List (List Itm)} : flat (g :: R) = .star :: (g ++ flat R) := by simp [flat]
theorem MS_cons {g : List Itm} {R : List (List Itm)} : MS (g :: R) = anySuf (M (g ++ flat R)) := by
  unfold MS
  rw [flat_cons, M_step]
  rfl
theorem MS_iff {g : List Itm} {R : List (List Itm)} {os : List Nat} (hg : okS g) (ho : all256 os) : MS (g :: R) os = true ↔ ∃ m, preB g (os.drop m) = true ∧ MS R ((os.drop m).drop g.length) = true := by
  rw [MS_cons, anySuf_iff]
  constructor
  · rintro ⟨m, h⟩
    rw [M_pre g _ hg (all256_drop ho), Bool.and_eq_true] at h
    exact ⟨m, h⟩
  · rintro ⟨m, h⟩
    refine ⟨m, ?_⟩
    rw [M_pre g _ hg (all256_drop ho), Bool.and_eq_true]
    exact h
theorem MS_mono {g : List Itm} {R : List (List Itm)} {os : List Nat} {n : Nat} (h : MS (g :: R) (os.drop n) = true) : MS (g :: R) os = true := by
  rw [MS_cons] at h ⊢
  exact anySuf_mono h

theorem MS_last {g : List Itm} {os : List Nat} (hg : okS g) (ho : all256 os) : MS [g] os = lastB g os := by
  rw [Bool.eq_iff_iff, MS_iff hg ho]
  unfold lastB
  rw [Bool.and_eq_true, decide_eq_true_iff]
  constructor
  · rintro ⟨m, h1, h2⟩
    have hl := preB_len _ _ h1
    have h2 : ((os.drop m).drop g.length).isEmpty = true := h2
    have h3 : ((os.drop m).drop g.length).length = 0 := by
      rw [List.isEmpty_iff] at h2; rw [h2]; rfl
    rw [List.length_drop, List.length_drop] at h3
    rw [List.length_drop] at hl
    refine ⟨by omega, ?_⟩
    by_cases hm : m ≤ os.length
    · have : os.length - g.length = m := by omega
      rw [this]; exact h1
    · rw [List.drop_eq_nil_of_le (by omega)] at h1
      rw [List.drop_eq_nil_of_le (by omega)]
      exact h1
  · rintro ⟨h1, h2⟩
    refine ⟨os.length - g.length, h2, ?_⟩
    show ((os.drop (os.length - g.length)).drop g.length).isEmpty = true
    rw [List.drop_drop, List.drop_eq_nil_of_le (by omega)]
    rfl

theorem seek_ok {g g2 : List Itm} {R : List (List Itm)} (hg : okS g) : ∀ os : List Nat, all256 os → MS (g :: g2 :: R) os = (match seekF g os with | none => false | some s => MS (g2 :: R) (s.drop g.length))
  | [], ho => by
    rw [Bool.eq_iff_iff, MS_iff hg ho]
    unfold seekF
    simp only [List.drop_nil]
    cases h : preB g [] <;> simp
  | o :: t, ho => by
    have ih := seek_ok (g2 := g2) (R := R) hg t (fun x hx => ho x (by simp [hx]))
    unfold seekF
    cases h : preB g (o :: t) with
    | true =>
      simp only [if_true]
      rw [Bool.eq_iff_iff, MS_iff hg ho]
      constructor
      · rintro ⟨m, h1, h2⟩
        rw [List.drop_drop, Nat.add_comm, ← List.drop_drop] at h2
        exact MS_mono h2
      · intro h2
        exact ⟨0, h, h2⟩
    | false =>
      simp only [Bool.false_eq_true, if_false]
      rw [← ih, Bool.eq_iff_iff, MS_iff hg ho, MS_iff hg (fun x hx => ho x (by simp [hx]))]
      constructor
      · rintro ⟨m, h1, h2⟩
        cases m with
        | zero => rw [List.drop_zero, h] at h1; cases h1
        | succ m => exact ⟨m, h1, h2⟩
      · rintro ⟨m, h1, h2⟩
        exact ⟨m + 1, h1, h2⟩
theorem seek_mem {g : List Itm} : ∀ {os r : List Nat}, all256 os → seekF g os = some r → all256 r
  | [], r, ho, h => by
    unfold seekF at h
    split at h
    · cases h; exact ho
    · cases h
  | o :: t, r, ho, h => by
    unfold seekF at h
    split at h
    · cases h; exact ho
    · exact seek_mem (fun x hx => ho x (by simp [hx])) h

theorem walk_ok : ∀ (R : List (List Itm)) (g : List Itm) (os : List Nat), okS g → (∀ x ∈ R, okS x) → all256 os → MS (R ++ [g]) os = (match walkM R os with | none => false | some r => lastB g r)
  | [], g, os, hg, hR, ho => MS_last hg ho
  | [x], g, os, hg, hR, ho => by
    show MS (x :: g :: []) os = _
    rw [seek_ok (hR x (by simp)) os ho, walkM]
    cases h : seekF x os with
    | none => rfl
    | some s => exact MS_last hg (all256_drop (seek_mem ho h))
  | x :: y :: R, g, os, hg, hR, ho => by
    show MS (x :: y :: (R ++ [g])) os = _
    rw [seek_ok (hR x (by simp)) os ho, walkM]
    cases h : seekF x os with
    | none => rfl
    | some s => exact walk_ok (y :: R) g _ hg (fun z hz => hR z (by simp at hz ⊢; right; exact hz)) (all256_drop (seek_mem ho h))

theorem takes_M {f : List Itm} {R : List (List Itm)} {os : List Nat} (hf : okS f) (hR : ∀ x ∈ R, okS x) (ho : all256 os) : takesB f R os = M (f ++ flat R) os := by
  rw [M_pre f os hf ho]
  unfold takesB
  cases hp : preB f os with
  | false => rfl
  | true =>
    rw [Bool.true_and, Bool.true_and]
    have hl := preB_len _ _ hp
    cases hL : R.getLast? with
    | none =>
      have : R = [] := by simpa using hL
      subst this
      show (f.length == os.length) = (os.drop f.length).isEmpty
      rw [Bool.eq_iff_iff, List.isEmpty_iff, List.drop_eq_nil_iff]
      simp
      omega
    | some g =>
      have hRg : R.dropLast ++ [g] = R := by
        have hne : R ≠ [] := by intro h; subst h; cases hL
        rw [List.getLast?_eq_some_getLast hne] at hL
        cases hL
        exact List.dropLast_concat_getLast hne
      have hg : g ∈ R := List.mem_of_getLast? hL
      have := walk_ok R.dropLast g (os.drop f.length) (hR g hg) (fun x hx => hR x ((List.dropLast_sublist R).subset hx)) (all256_drop ho)
      rw [hRg] at this
      exact this.symm
end Mine
end

/-! U20 -/
section
open PySem PySem.W PyProof.Rows
set_option maxRecDepth 100000
set_option linter.unusedSimpArgs false
set_option linter.unusedVariables false
namespace Mine

/-- collapsed from the right; the flag: a star stands before -/
noncomputable def clR : Bool → List Itm → List Itm
  | _, [] => []
  | b, .star :: r => if b then clR true r else .star :: clR true r
  | _, .set g e x :: r => .set g e x :: clR false r
noncomputable def lastStar (c : List Itm) : Bool := match c.getLast? with
  | some .star => true
  | _ => false
theorem cl_clR : ∀ (its c : List Itm), its.foldl addC c = c ++ clR (lastStar c) its
  | [], c => by simp [clR]
  | .star :: r, c => by
    rw [List.foldl_cons, cl_clR r]
    unfold lastStar addC
    cases h : c.getLast? with
    | none => simp [clR]
    | some x =>
      cases x with
      | star => simp [clR, h]
      | set g e b => simp [clR]
  | .set g e x :: r, c => by
    rw [List.foldl_cons, cl_clR r]
    unfold lastStar addC
    simp [clR]
theorem cl_eq (its : List Itm) : cl its = clR false its := by
  unfold cl
  rw [cl_clR]
  rfl

theorem M_cl : ∀ its : List Itm, M (clR false its) = M its ∧ anySuf (M (clR true its)) = anySuf (M its)
  | [] => ⟨rfl, rfl⟩
  | .star :: r => by
    obtain ⟨h1, h2⟩ := M_cl r
    have e : M (.star :: r) = anySuf (M r) := by rw [M_step]; rfl
    constructor
    · show M (.star :: clR true r) = _
      rw [M_step, e]
      exact h2
    · show anySuf (M (clR true r)) = _
      rw [e, anySuf_twice]
      exact h2
  | .set g e x :: r => by
    obtain ⟨h1, h2⟩ := M_cl r
    have h : M (clR false (.set g e x :: r)) = M (.set g e x :: r) := by
      show M (.set g e x :: clR false r) = _
      rw [M_step, M_step, h1]
    exact ⟨h, by rw [show clR true (.set g e x :: r) = clR false (.set g e x :: r) from rfl, h]⟩

/-- the parts -/
noncomputable def spl : Bool → List Itm → List Itm × List (List Itm)
  | _, [] => ([], [])
  | b, .star :: r => if b then spl true r else ([], (spl true r).1 :: (spl true r).2)
  | _, .set g e x :: r => (.set g e x :: (spl false r).1, (spl false r).2)
theorem spl_flat : ∀ (b : Bool) (its : List Itm), clR b its = (spl b its).1 ++ flat (spl b its).2
  | _, [] => rfl
  | true, .star :: r => by
    have := spl_flat true r
    simp only [clR, spl, if_true]
    exact this
  | false, .star :: r => by
    have := spl_flat true r
    simp only [clR, spl, Bool.false_eq_true, if_false]
    rw [this, flat_cons]
    rfl
  | _, .set g e x :: r => by
    have := spl_flat false r
    simp only [clR, spl]
    rw [this]
    rfl
theorem spl_ok : ∀ (b : Bool) (its : List Itm), (∀ it ∈ its, okI it = true) → okS (spl b its).1 ∧ ∀ g ∈ (spl b its).2, okS g
  | _, [], h => ⟨fun x hx => (by cases hx), fun x hx => (by cases hx)⟩
  | true, .star :: r, h => by
    simp only [spl, if_true]
    exact spl_ok true r fun x hx => h x (by simp [hx])
  | false, .star :: r, h => by
    obtain ⟨h1, h2⟩ := spl_ok true r fun x hx => h x (by simp [hx])
    simp only [spl, Bool.false_eq_true, if_false]
    refine ⟨fun x hx => (by cases hx), fun g hg => ?_⟩
    rcases List.mem_cons.mp hg with rfl | hg
    · exact h1
    · exact h2 g hg
  | _, .set g e x :: r, h => by
    obtain ⟨h1, h2⟩ := spl_ok false r fun x hx => h x (by simp [hx])
    simp only [spl]
    refine ⟨fun y hy => ?_, h2⟩
    rcases List.mem_cons.mp hy with rfl | hy
    · exact ⟨h _ (by simp), nofun⟩
    · exact h1 y hy
theorem spl_ne : ∀ (b : Bool) (its : List Itm) (g : Option Nat) (e : Option Bool) (x : Bool), its.getLast? = some (.set g e x) → (∀ y ∈ (spl b its).2, y ≠ []) ∧ (b = true → (spl b its).1 ≠ [])
  | _, [], g, e, x, h => by cases h
  | b, .star :: r, g, e, x, h => by
    have hr : r.getLast? = some (.set g e x) := by
      cases r with
      | nil => simp at h
      | cons y r => rwa [List.getLast?_cons_cons] at h
    obtain ⟨h1, h2⟩ := spl_ne true r g e x hr
    cases b
    · simp only [spl, Bool.false_eq_true, if_false]
      refine ⟨fun y hy => ?_, nofun⟩
      rcases List.mem_cons.mp hy with rfl | hy
      · exact h2 rfl
      · exact h1 y hy
    · simp only [spl, if_true]
      exact ⟨h1, fun _ => h2 rfl⟩
  | b, .set g' e' x' :: r, g, e, x, h => by
    simp only [spl]
    refine ⟨?_, fun _ => nofun⟩
    cases r with
    | nil => intro y hy; cases hy
    | cons y r =>
      rw [List.getLast?_cons_cons] at h
      exact (spl_ne false (y :: r) g e x h).1
theorem clR_len : ∀ (b : Bool) (its : List Itm), (clR b its).length ≤ its.length
  | _, [] => by simp [clR]
  | true, .star :: r => by
    have := clR_len true r
    simp only [clR, if_true, List.length_cons]
    omega
  | false, .star :: r => by
    have := clR_len true r
    simp only [clR, Bool.false_eq_true, if_false, List.length_cons]
    omega
  | _, .set g e x :: r => by
    have := clR_len false r
    simp only [clR, List.length_cons]
    omega

/-! lengths -/
theorem wr_len (it : Itm) : (wr it).length ≤ 8 := by
  rcases it with _ | ⟨_ | g, _ | e, b⟩
  · simp [wr]
  · simp [wr]
  · cases e <;> simp [wr]
  · simp [wr]
  · show ((if b then [91, 33] else [91]) ++ pairT (octOf g e) ++ [93]).length ≤ 8
    have hp : (pairT (octOf g e)).length = 2 := by unfold pairT; split <;> rfl
    rw [List.length_append, List.length_append, hp]
    cases b <;> simp
theorem tx_len (it : Itm) : (tx it).length ≤ 8 := by
  rcases it with _ | ⟨_ | g, _ | e, b⟩
  · simp [tx]
  · simp [tx]
  · cases e <;> simp [tx]
  · simp [tx]
  · show (91 :: (if b then [94] else []) ++ bodyT (octOf g e) ++ [93]).length ≤ 8
    obtain ⟨c, r, h, _, _, _, hr⟩ := bodyT_cons (o := octOf g e)
    rw [h]
    cases b <;> (simp; omega)
theorem flatMap_len {f : Itm → List Nat} (h : ∀ it, (f it).length ≤ 8) : ∀ its : List Itm, (its.flatMap f).length ≤ 8 * its.length
  | [] => by simp
  | it :: its => by
    have h1 := flatMap_len h its
    have h2 := h it
    rw [List.flatMap_cons, List.length_append, List.length_cons]
    omega
theorem cat_len (its : List Itm) : (cat its).length ≤ 8 * its.length := by
  have : cat its = its.flatMap tx := by unfold cat; rw [List.flatMap_def]
  rw [this]
  exact flatMap_len tx_len its
theorem grT_sum (g : List Itm) : ((grT g).map List.length).sum = (cat g).length := by
  unfold grT cat
  rw [List.length_flatten]
theorem flat_len {R : List (List Itm)} {g : List Itm} (h : g ∈ R) : g.length + 1 ≤ (flat R).length := by
  induction R with
  | nil => cases h
  | cons x R ih =>
    rw [flat_cons, List.length_cons, List.length_append]
    rcases List.mem_cons.mp h with rfl | h
    · omega
    · have := ih h; omega
theorem flat_count : ∀ R : List (List Itm), R.length ≤ (flat R).length
  | [] => by simp
  | x :: R => by
    have := flat_count R
    rw [flat_cons, List.length_cons, List.length_cons, List.length_append]
    omega
theorem outs_sum : ∀ R : List (List Itm), ((outs (R.map grT)).map List.length).sum ≤ 10 * (flat R).length
  | [] => by simp [outs]
  | [g] => by
    have := cat_len g
    have h2 : (flat [g]).length = g.length + 1 := by rw [flat_cons]; simp [flat]
    have h3 : (grT g).flatten.length = (cat g).length := rfl
    simp only [List.map_cons, List.map_nil, outs, List.sum_cons, List.sum_nil, List.length_cons, List.length_nil, h3, h2]
    omega
  | g :: g2 :: R => by
    have ih := outs_sum (g2 :: R)
    have := cat_len g
    have h3 : (grT g).flatten.length = (cat g).length := rfl
    rw [flat_cons, List.length_cons, List.length_append]
    have e : outs ((g :: g2 :: R).map grT) = ([40, 63, 62, 46, 42, 63] ++ (grT g).flatten ++ [41]) :: outs ((g2 :: R).map grT) := rfl
    rw [e, List.map_cons, List.sum_cons, List.length_append, List.length_append, h3]
    simp only [List.length_cons, List.length_nil]
    omega
theorem map_part {a : Addr} {f : List Itm} (h : okS f) : f.map (part a) = (f.map tx).map D.str := by
  rw [List.map_map]
  apply List.map_congr_left
  intro it hit
  exact part_set (h it hit).2
theorem jIn_eq {a : Addr} {f : List Itm} {R : List (List Itm)} (hf : okS f) (hR : ∀ g ∈ R, okS g) : (f ++ flat R).map (part a) = jIn a (f.map tx) (R.map grT) := by
  unfold jIn
  rw [List.map_append, map_part hf]
  congr 1
  clear hf
  induction R with
  | nil => rfl
  | cons g R ih =>
    rw [flat_cons, List.map_cons, List.map_append, map_part (hR g (by simp)), ih (fun x hx => hR x (by simp [hx])), List.map_cons, List.flatMap_cons]
    rfl

theorem askedI_ok (n : Nat) : ∀ it ∈ askedI n, okI it = true := by
  have h1 : n / 12 % 64 < 64 := Nat.mod_lt _ (by decide)
  have h2 : (n / 12 % 64 + 1) % 64 < 64 := Nat.mod_lt _ (by decide)
  have h3 : (n / 12 + 1) % 64 < 64 := Nat.mod_lt _ (by decide)
  intro it hit
  unfold askedI at hit
  simp only at hit
  split at hit <;> simp at hit <;> first | (subst hit; simp [okI, h1, h2, h3]) | (rcases hit with rfl | rfl <;> simp [okI, h1])
theorem askedI_len (n : Nat) : (askedI n).length ≤ 2 := by
  unfold askedI
  simp only
  split <;> simp

/-- the text that translate gives -/
theorem tr_ok (its : List Itm) (ok : ∀ it ∈ its, okI it = true) (hlen : its.length ≤ 50) {g : Option Nat} {e : Option Bool} {x : Bool} (hlast : its.getLast? = some (.set g e x)) :
    trR [.str (its.flatMap wr)] (.str (textOf (spl false its).1 (spl false its).2)) := by
  obtain ⟨h1, h2⟩ := spl_ok false its ok
  obtain ⟨n1, _⟩ := spl_ne false its g e x hlast
  have hfl := spl_flat false its
  have hcl := clR_len false its
  rw [hfl, List.length_append] at hcl
  refine ⟨_, rfl, fun a => ⟨_, translate_ok a its ok (by omega) (by have := flatMap_len wr_len its; omega), ?_⟩⟩
  rw [cl_eq, hfl, jIn_eq h1 h2]
  have hfs := cat_len (spl false its).1
  have hos := outs_sum (spl false its).2
  refine join_parts_ok 0 _ _ (fun y hy => ?_) ?_ ?_
  · obtain ⟨gg, hgg, rfl⟩ := List.mem_map.mp hy
    have hc := cat_len gg
    have hgl := flat_len hgg
    refine ⟨?_, ?_⟩
    · intro h0
      unfold grT at h0
      exact n1 gg hgg (by simpa using h0)
    · rw [grT_sum]; omega
  · rw [← jIn_eq (a := a) h1 h2, List.length_map, List.length_append]; omega
  · rw [List.map_append, List.sum_append]
    have e0 : (((spl false its).1.map tx).map List.length).sum = (cat (spl false its).1).length := grT_sum _
    rw [e0]; omega
/-- translate, as far as it is asked -/
noncomputable def trF (p q : List Nat) : D → Option D
  | .str l => if l = p then some (.str q) else none
  | _ => none
theorem trF_ok {p q : List Nat} : trF p q (.str p) = some (.str q) := if_pos rfl
theorem trF_tr {p q : List Nat} (h : trR [.str p] (.str q)) {d t : D} (e : trF p q d = some t) : trR [d] t := by
  cases d <;> simp only [trF, reduceCtorEq] at e
  split at e
  · rename_i hl
    cases e
    rw [hl]; exact h
  · cases e
end Mine
end

/-! U21 -/
section
open PySem PySem.W PyProof.Rows
set_option maxRecDepth 100000
set_option linter.unusedSimpArgs false
set_option linter.unusedVariables false
namespace Mine

theorem kext_n {x σ l r} (h : l.length + r.length ≤ 16777216) : kext x σ (.own l) (some (.list r)) = some (upd σ x (.own (l ++ r)), .nxt) := if_pos h
theorem comp_at {Φ : Str → List D → Option D} {x : Nat} {vis : List Nat} {elt it : E} {σ : Slots} {L R : List D} (h : evm Φ .borrow it σ = some (.list L)) (hl : L.length ≤ 16777216)
    (hc : coll (fun d => someO (evm Φ .strict elt (upd (inner σ vis) x (.val d)))) L = some R) : evm Φ .strict (.comp x vis elt it) σ = some (.list R) ∧ evm Φ .borrow (.comp x vis elt it) σ = some (.list R) := by
  rw [e_comp, e_comp, h, compE_l hl hc, fin_s, fin_b]
  exact ⟨rfl, rfl⟩
theorem coll_map {α : Type} {g : D → Option (Option D)} {f : α → D} {h : α → D} : ∀ (l : List α), (∀ a ∈ l, g (f a) = some (some (h a)) ∧ scal (h a) = true) → coll g (l.map f) = some (l.map h)
  | [], _ => rfl
  | a :: l, H => by
    obtain ⟨h1, h2⟩ := H a (by simp)
    rw [List.map_cons, coll, h1]
    simp only [h2, if_true]
    rw [coll_map l (fun b hb => H b (by simp [hb]))]
    rfl
theorem eqL_bool : ∀ bs : List Bool, eqL (bs.map D.bool) (bs.map D.bool) = some true
  | [] => rfl
  | b :: bs => by
    rw [List.map_cons, eqL, eqL_bool bs]
    have : eqS (.bool b) (.bool b) = some true := by
      show some (b == b) = _
      simp
    rw [this]
    rfl
theorem slot1 {σ : Slots} {d : D} : upd (inner σ []) 1 (.val d) = mk [.un, .val d] := by
  funext j
  unfold upd inner
  match j with
  | 0 => simp [mk_at]
  | 1 => simp [mk_at]
  | j + 2 => simp [mk_at]
theorem slot8 {σ : Slots} {d : D} : upd (inner σ []) 8 (.val d) = mk [.un, .un, .un, .un, .un, .un, .un, .un, .val d] := by
  funext j
  unfold upd inner
  by_cases h : j = 8
  · subst h; simp [mk_at]
  · have : (([.un, .un, .un, .un, .un, .un, .un, .un, .val d] : List SV)[j]?).getD .un = .un := by
      match j with
      | 0 => rfl
      | 1 => rfl
      | 2 => rfl
      | 3 => rfl
      | 4 => rfl
      | 5 => rfl
      | 6 => rfl
      | 7 => rfl
      | 8 => exact absurd rfl h
      | j + 9 => rfl
    rw [mk_at, this]
    simp [h]
theorem slot9 {σ : Slots} {d : D} : upd (inner σ []) 9 (.val d) = mk [.un, .un, .un, .un, .un, .un, .un, .un, .un, .val d] := by
  funext j
  unfold upd inner
  by_cases h : j = 9
  · subst h; simp [mk_at]
  · have : (([.un, .un, .un, .un, .un, .un, .un, .un, .un, .val d] : List SV)[j]?).getD .un = .un := by
      match j with
      | 0 => rfl
      | 1 => rfl
      | 2 => rfl
      | 3 => rfl
      | 4 => rfl
      | 5 => rfl
      | 6 => rfl
      | 7 => rfl
      | 8 => rfl
      | 9 => exact absurd rfl h
      | j + 10 => rfl
    rw [mk_at, this]
    simp [h]
theorem slot10 {l : List SV} {d : D} (hl : l.length = 11) : upd (inner (mk l) [5, 6]) 10 (.val d) = mk [.un, .un, .un, .un, .un, (l[5]?).getD .un, (l[6]?).getD .un, .un, .un, .un, .val d] := by
  funext j
  unfold upd inner
  match j with
  | 0 => simp [mk_at]
  | 1 => simp [mk_at]
  | 2 => simp [mk_at]
  | 3 => simp [mk_at]
  | 4 => simp [mk_at]
  | 5 => simp [mk_at]
  | 6 => simp [mk_at]
  | 7 => simp [mk_at]
  | 8 => simp [mk_at]
  | 9 => simp [mk_at]
  | 10 => simp [mk_at]
  | j + 11 => simp [mk_at]
theorem start_mk {S : Addr} {d : D} : put (fun i => if i = 0 then SV.ptr S else .un) 2 (.val d) = mk [.ptr S, .un, .val d, .un, .un, .un, .un, .un, .un, .un, .un] := by
  funext j
  unfold put
  match j with
  | 0 => simp [mk_at]
  | 1 => simp [mk_at]
  | 2 => simp [mk_at]
  | 3 => simp [mk_at]
  | 4 => simp [mk_at]
  | 5 => simp [mk_at]
  | 6 => simp [mk_at]
  | 7 => simp [mk_at]
  | 8 => simp [mk_at]
  | 9 => simp [mk_at]
  | 10 => simp [mk_at]
  | j + 11 => simp [mk_at]

noncomputable def stW (S : Addr) (g1 : SV) (nn os : List Nat) (r : List SV) : List SV := .ptr S :: g1 :: .val (.list (nn.map intD)) :: .val (.list (os.map intD)) :: r

section
variable {k : Nat} {S : Addr}

/-- `asked` is filled -/
theorem w_loop (N : Nat) {nn os : List Nat} : ∀ (ms : List Nat) (acc : List Itm) (g1 : Gb), acc.length + 2 * ms.length ≤ 1000000 → (∀ m ∈ ms, m < 3072) →
    ∃ h1 : Gb, loopL (run (Φs 3) (N + 5) [.ext 4 (.call1 "_law_asked" (.var 1))]) 1 (ms.map intD) (mk (stW S g1.s nn os [.own (acc.map enc), .un, .un, .un, .un, .un, .un])) =
      some (mk (stW S h1.s nn os [.own ((acc ++ ms.flatMap askedI).map enc), .un, .un, .un, .un, .un, .un]), .nxt)
  | [], acc, g1, h, hm => ⟨g1, by rw [List.map_nil, loopL_nil, List.flatMap_nil, List.append_nil]⟩
  | m :: ms, acc, g1, h, hm => by
    have ha := askedI_len m
    obtain ⟨h1, e⟩ := w_loop N ms (acc ++ askedI m) (.v (intD m)) (by simp at h ⊢; omega) (fun x hx => hm x (by simp [hx]))
    refine ⟨h1, ?_⟩
    have hl : (acc.map enc).length + ((askedI m).map enc).length ≤ 16777216 := by simp at h ⊢; omega
    have as := asked_ok (hm m (by simp))
    rw [List.map_cons, loopL_nxt (σ' := mk (stW S (Gb.v (intD m)).s nn os [.own ((acc ++ askedI m).map enc), .un, .un, .un, .un, .un, .un]))]
    · rw [e, List.flatMap_cons, List.append_assoc]
    · unfold stW
      rw [List.map_append]
      unfold intD
      simp only [rE, List.isEmpty_nil, List.isEmpty_cons, Nat.reduceEqDiff, Nat.zero_le, beq_self_eq_true, Nat.reduceAdd, List.length_cons, List.length_nil, List.getElem?_cons_zero, List.getElem?_cons_succ, Option.getD_some, ↓reduceIte, and_self, true_and, and_true, ne_eq, not_false_eq_true, Nat.reduceLT, Nat.reduceLeDiff, decide_true, decide_false, Bool.or_false, Bool.false_or, Bool.not_true, Bool.not_false, rR, putL, List.map_cons, List.map_nil, List.set_cons_zero, List.set_cons_succ, as, kext_n hl]
      rfl
end

theorem getLast_append_cons {α : Type} (l : List α) (a : α) : (l ++ [a]).getLast? = some a := by simp

noncomputable def lawTr (ns : List Nat) : D → Option D := trF (((ns ++ [1116, 540]).flatMap askedI).flatMap wr) (textOf (spl false ((ns ++ [1116, 540]).flatMap askedI)).1 (spl false ((ns ++ [1116, 540]).flatMap askedI)).2)

/-- the law's data -/
theorem law_run (S : Addr) (ns : List Nat) (h3 : ∀ n ∈ ns, n < 3072) (hl : ns.length ≤ 6) :
    (∀ d t, lawTr ns d = some t → trR [d] t) ∧ ∃ σ', Mine.run (Φs 3) fuel (lawTail (lawTr ns)) (put (fun i => if i = 0 then .ptr S else .un) 2 (.val (.list ((ns ++ [1116, 540]).map intD)))) = some (σ', .ret (.bool true)) := by
  unfold lawTr
  have hn3 : ∀ n ∈ ns ++ [1116, 540], n < 3072 := by
    intro n hn
    rcases List.mem_append.mp hn with h | h
    · exact h3 n h
    · simp at h; omega
  have hnl : (ns ++ [1116, 540]).length ≤ 8 := by simp; omega
  have hlast : ((ns ++ [1116, 540]).flatMap askedI).getLast? = some (.set (some 45) (some true) false) := by
    rw [List.flatMap_append]
    have : ([1116, 540] : List Nat).flatMap askedI = [.set (some 29) (some false) false] ++ [.set (some 45) (some true) false] := rfl
    rw [this, ← List.append_assoc, getLast_append_cons]
  have hend : EndC ((ns ++ [1116, 540]).map (· / 12)) := by
    rw [List.map_append]
    have : ([1116, 540] : List Nat).map (· / 12) = [93, 45] := rfl
    rw [this]
    generalize ns.map (· / 12) = l
    induction l with
    | nil => exact rfl
    | cons a l ih =>
      cases l with
      | nil => exact ih
      | cons b l => exact ih
  generalize hnn : ns ++ [1116, 540] = nn at *
  have hil : (nn.flatMap askedI).length ≤ 16 := by
    have : ∀ l : List Nat, (l.flatMap askedI).length ≤ 2 * l.length := by
      intro l
      induction l with
      | nil => simp
      | cons n l ih =>
        have := askedI_len n
        rw [List.flatMap_cons, List.length_append, List.length_cons]; omega
    have := this nn
    omega
  have hok : ∀ it ∈ nn.flatMap askedI, okI it = true := by
    intro it hit
    obtain ⟨n, _, h⟩ := List.mem_flatMap.mp hit
    exact askedI_ok n it h
  have h256 : all256 (nn.map (· / 12)) := by
    intro o ho
    obtain ⟨n, hn, rfl⟩ := List.mem_map.mp ho
    have := hn3 n hn
    show n / 12 < 256
    omega
  obtain ⟨h1, e1⟩ := w_loop (S := S) (nn := nn) (os := nn.map (· / 12)) 1992 nn [] .u (by simp; omega) hn3
  rw [List.nil_append] at e1
  have htr := tr_ok (nn.flatMap askedI) hok (by omega) hlast
  obtain ⟨sp1, sp2⟩ := spl_ok false _ hok
  obtain ⟨nh, _⟩ := spl_ne false _ _ _ _ hlast
  have hfl := spl_flat false (nn.flatMap askedI)
  have hcl := clR_len false (nn.flatMap askedI)
  have hM := (M_cl (nn.flatMap askedI)).1
  rw [hfl, List.length_append] at hcl
  rw [hfl] at hM
  have hRc := flat_count (spl false (nn.flatMap askedI)).2
  have hosl : (nn.map (· / 12)).length ≤ 8 := by simpa using hnl
  have f3 : evm (Φs 3) .strict (.comp 1 [] (.bin .FloorDiv (.var 1) (.int 12)) (.var 2)) (mk [.ptr S, .un, .val (.list (nn.map intD)), .un, .un, .un, .un, .un, .un, .un, .un]) = some (.list ((nn.map (· / 12)).map intD)) := by
    refine (comp_at (L := nn.map intD) ?_ ?_ ?_).1
    · simp only [rE, List.isEmpty_nil, List.isEmpty_cons, Nat.reduceEqDiff, Nat.zero_le, beq_self_eq_true, Nat.reduceAdd, List.length_cons, List.length_nil, List.getElem?_cons_zero, List.getElem?_cons_succ, Option.getD_some, ↓reduceIte, and_self, true_and, and_true, ne_eq, not_false_eq_true, Nat.reduceLT, Nat.reduceLeDiff, decide_true, decide_false, Bool.or_false, Bool.false_or, Bool.not_true, Bool.not_false]
    · simp; omega
    · rw [List.map_map]
      refine coll_map nn fun n hn => ⟨?_, rfl⟩
      rw [slot1]
      unfold intD
      simp only [rE, List.isEmpty_nil, List.isEmpty_cons, Nat.reduceEqDiff, Nat.zero_le, beq_self_eq_true, Nat.reduceAdd, List.length_cons, List.length_nil, List.getElem?_cons_zero, List.getElem?_cons_succ, Option.getD_some, ↓reduceIte, and_self, true_and, and_true, ne_eq, not_false_eq_true, Nat.reduceLT, Nat.reduceLeDiff, decide_true, decide_false, Bool.or_false, Bool.false_or, Bool.not_true, Bool.not_false, someO_s]
      rfl
  generalize hits : nn.flatMap askedI = its at *
  generalize hos : nn.map (· / 12) = os at *
  generalize hf : (spl false its).1 = f at *
  generalize hR : (spl false its).2 = R at *
  have hfs : f.length ≤ 1000 := by omega
  have hRs : ∀ g ∈ R, okS g ∧ g.length ≤ 1000 := fun g hg => ⟨sp2 g hg, by have := flat_len hg; omega⟩
  have htl : (textOf f R).length ≤ 1000000 := by
    rw [textOf_eq]
    have h1 := cat_len f
    have h2 := outs_sum R
    have h3 : (oT R).length = ((outs (R.map grT)).map List.length).sum + 3 := by
      unfold oT end3
      rw [List.length_append, List.length_flatten]
      rfl
    simp only [List.length_cons, List.length_append]
    omega
  have pk := pieces_ok 0 f R ⟨sp1, hfs⟩ hRs (by omega) htl
  have hwl : (its.flatMap wr).length ≤ 1000 := by have := flatMap_len wr_len its; omega
  refine ⟨fun d t h => trF_tr htr h, ?_⟩
  have hPP : (piece f :: R.map piece).isEmpty = false := rfl
  have ht2 : ∀ p, Φs 3 "_law_takes" [.list (piece f :: R.map piece), .str (os.drop p)] = some (.bool (takesB f R (os.drop p))) := fun p => takes_ok 1 f R (by rw [List.length_drop]; omega) hfs (fun g hg => (hRs g hg).2) (by omega)
  have han := answers_ok 1 its os (by omega) (by omega)
  have hdg := digits_ok 2 os h256 (by omega) hend
  have hres : ((List.range (os.length + 1)).map fun p => takesB f R (os.drop p)).map D.bool = (sufs os).map fun t => D.bool (M its t) := by
    have e : (sufs os).map (fun t => D.bool (M its t)) = ((sufs os).map (M its)).map D.bool := by rw [List.map_map]; rfl
    rw [e, sufs_range]
    congr 1
    apply List.map_congr_left
    intro p hp
    rw [takes_M sp1 sp2 (all256_drop h256), hM]
  generalize hPd : piece f :: R.map piece = PP at *
  have hjoin1 : joinD [] (.list (os.map fun o => D.str [o])) = some (.str os) := by
    have := join_ok (ls := os.map fun o => [o]) (by
      rw [List.map_map]
      have : (os.map (List.length ∘ fun o => [o])).sum = os.length := by
        clear hosl h256 hend e1 f3 ht2 han hdg hres hos
        induction os with
        | nil => rfl
        | cons o os ih => simp only [List.map_cons, List.sum_cons, ih, List.length_cons, Function.comp, List.length_nil]; omega
      omega)
    rw [List.map_map] at this
    have h2 : (os.map fun o => [o]).flatten = os := by
      clear hosl h256 hend e1 f3 ht2 han hdg hres hos this
      induction os with
      | nil => rfl
      | cons o os ih => simp only [List.map_cons, List.flatten_cons, ih, List.cons_append, List.nil_append]
    rw [h2] at this
    exact this
  have hjoin2 : joinD [] (.list (its.map fun it => D.str (wr it))) = some (.str (its.flatMap wr)) := by
    have h2 : (its.map wr).flatten = its.flatMap wr := by rw [List.flatMap_def]
    have := join_ok (ls := its.map wr) (by rw [← List.length_flatten, h2]; omega)
    rw [List.map_map, h2] at this
    exact this
  have f5 : evm (Φs 3) .borrow (.comp 8 [] (.chr (.var 8)) (.var 3)) (mk [.ptr S, h1.s, .val (.list (nn.map intD)), .val (.list (os.map intD)), .own (its.map enc), .un, .un, .un, .un, .un, .un]) = some (.list (os.map fun o => D.str [o])) := by
    refine (comp_at (L := os.map intD) ?_ ?_ ?_).2
    · simp only [rE, List.isEmpty_nil, List.isEmpty_cons, Nat.reduceEqDiff, Nat.zero_le, beq_self_eq_true, Nat.reduceAdd, List.length_cons, List.length_nil, List.getElem?_cons_zero, List.getElem?_cons_succ, Option.getD_some, ↓reduceIte, and_self, true_and, and_true, ne_eq, not_false_eq_true, Nat.reduceLT, Nat.reduceLeDiff, decide_true, decide_false, Bool.or_false, Bool.false_or, Bool.not_true, Bool.not_false]
    · simp; omega
    · refine coll_map os fun o ho => ⟨?_, rfl⟩
      have h1 : o ≤ 1114111 := by have := h256 o ho; omega
      rw [slot8]
      unfold intD
      simp only [rE, List.isEmpty_nil, List.isEmpty_cons, Nat.reduceEqDiff, Nat.zero_le, beq_self_eq_true, Nat.reduceAdd, List.length_cons, List.length_nil, List.getElem?_cons_zero, List.getElem?_cons_succ, Option.getD_some, ↓reduceIte, and_self, true_and, and_true, ne_eq, not_false_eq_true, Nat.reduceLT, Nat.reduceLeDiff, decide_true, decide_false, Bool.or_false, Bool.false_or, Bool.not_true, Bool.not_false, someO_s, h1]
  have f6 : evm (Φs 3) .borrow (.comp 9 [] (.call1 "_law_written" (.var 9)) (.var 4)) (mk [.ptr S, h1.s, .val (.list (nn.map intD)), .val (.list (os.map intD)), .own (its.map enc), .val (.str os), .un, .un, .un, .un, .un]) = some (.list (its.map fun it => D.str (wr it))) := by
    refine (comp_at (L := its.map enc) ?_ ?_ ?_).2
    · simp only [rE, List.isEmpty_nil, List.isEmpty_cons, Nat.reduceEqDiff, Nat.zero_le, beq_self_eq_true, Nat.reduceAdd, List.length_cons, List.length_nil, List.getElem?_cons_zero, List.getElem?_cons_succ, Option.getD_some, ↓reduceIte, and_self, true_and, and_true, ne_eq, not_false_eq_true, Nat.reduceLT, Nat.reduceLeDiff, decide_true, decide_false, Bool.or_false, Bool.false_or, Bool.not_true, Bool.not_false]
    · simp; omega
    · refine coll_map its fun it hit => ⟨?_, rfl⟩
      have hw := written_ok it (hok it hit)
      rw [slot9]
      simp only [rE, List.isEmpty_nil, List.isEmpty_cons, Nat.reduceEqDiff, Nat.zero_le, beq_self_eq_true, Nat.reduceAdd, List.length_cons, List.length_nil, List.getElem?_cons_zero, List.getElem?_cons_succ, Option.getD_some, ↓reduceIte, and_self, true_and, and_true, ne_eq, not_false_eq_true, Nat.reduceLT, Nat.reduceLeDiff, decide_true, decide_false, Bool.or_false, Bool.false_or, Bool.not_true, Bool.not_false, someO_s, hw]
  have f7 : evm (Φs 3) .strict (.compr 10 [5, 6] (.call2 "_law_takes" (.var 6) (.slc (.var 5) (.var 10) .none)) (.bin .Add (.len (.var 5)) (.int 1))) (mk [.ptr S, h1.s, .val (.list (nn.map intD)), .val (.list (os.map intD)), .own (its.map enc), .val (.str os), .val (.list PP), .un, .un, .un, .un]) = some (.list (((List.range (os.length + 1)).map fun p => takesB f R (os.drop p)).map D.bool)) := by
    have hl5 : os.length ≤ 16777216 := by omega
    rw [e_compr]
    simp only [rE, List.isEmpty_nil, List.isEmpty_cons, Nat.reduceEqDiff, Nat.zero_le, beq_self_eq_true, Nat.reduceAdd, List.length_cons, List.length_nil, List.getElem?_cons_zero, List.getElem?_cons_succ, Option.getD_some, ↓reduceIte, and_self, true_and, and_true, ne_eq, not_false_eq_true, Nat.reduceLT, Nat.reduceLeDiff, decide_true, decide_false, Bool.or_false, Bool.false_or, Bool.not_true, Bool.not_false, hl5]
    rw [compr_bool (f := fun p => takesB f R (os.drop p)) (by omega) ?_]
    intro i hi
    rw [slot10 rfl]
    simp only [rE, List.isEmpty_nil, List.isEmpty_cons, Nat.reduceEqDiff, Nat.zero_le, beq_self_eq_true, Nat.reduceAdd, List.length_cons, List.length_nil, List.getElem?_cons_zero, List.getElem?_cons_succ, Option.getD_some, ↓reduceIte, and_self, true_and, and_true, ne_eq, not_false_eq_true, Nat.reduceLT, Nat.reduceLeDiff, decide_true, decide_false, Bool.or_false, Bool.false_or, Bool.not_true, Bool.not_false, hl5, ht2, someO_s]
  have hdd : os.map digD = os.map digD := rfl
  have heq : eqL ((sufs os).map fun t => D.bool (M its t)) ((sufs os).map fun t => D.bool (M its t)) = some true := by
    have e : (sufs os).map (fun t => D.bool (M its t)) = ((sufs os).map (M its)).map D.bool := by rw [List.map_map]; rfl
    rw [e]; exact eqL_bool _
  rw [hres] at f7
  have htwo : twoF (Φs 3) "_law_pieces" (.join [] (.comp 9 [] (.call1 "_law_written" (.var 9)) (.var 4))) (trF (its.flatMap wr) (textOf f R)) 6 (mk [.ptr S, h1.s, .val (.list (nn.map intD)), .val (.list (os.map intD)), .own (its.map enc), .val (.str os), .un, .un, .un, .un, .un]) = some (mk [.ptr S, h1.s, .val (.list (nn.map intD)), .val (.list (os.map intD)), .own (its.map enc), .val (.str os), .val (.list PP), .un, .un, .un, .un]) := by
    unfold twoF
    rw [e_join, f6, b1_s, hjoin2, fin_s]
    show onO _ (trF _ _ _) = _
    rw [trF_ok]
    show onO _ (Φs 3 _ _) = _
    rw [pk]
    show some (put _ _ _) = _
    simp only [rE, List.isEmpty_nil, List.isEmpty_cons, Nat.reduceEqDiff, Nat.zero_le, beq_self_eq_true, Nat.reduceAdd, List.length_cons, List.length_nil, List.getElem?_cons_zero, List.getElem?_cons_succ, Option.getD_some, ↓reduceIte, and_self, true_and, and_true, ne_eq, not_false_eq_true, Nat.reduceLT, Nat.reduceLeDiff, decide_true, decide_false, Bool.or_false, Bool.false_or, Bool.not_true, Bool.not_false, rR, putL, List.map_cons, List.map_nil, List.set_cons_zero, List.set_cons_succ]
  have gu : Gb.u.s = .un := rfl
  unfold stW at e1
  simp only [gu, List.map_nil] at e1
  rw [start_mk]
  generalize hSuf : (sufs os).map (fun t => D.bool (M its t)) = SU at *
  generalize hos2 : os.map intD = OD at *
  generalize hnn2 : nn.map intD = ND at *
  generalize hit2 : its.map enc = ID at *
  have hEq : cmpD .Eq (.list SU) (.list SU) = some (.bool true) := by rw [eq_list, if_pos rfl, heq]; rfl
  refine retE (σ := ?_) ?_
  rotate_left
  · unfold lawTail
    rw [show fuel = 2000 from rfl]
    simp only [rE, List.isEmpty_nil, List.isEmpty_cons, Nat.reduceEqDiff, Nat.zero_le, beq_self_eq_true, Nat.reduceAdd, List.length_cons, List.length_nil, List.getElem?_cons_zero, List.getElem?_cons_succ, Option.getD_some, ↓reduceIte, and_self, true_and, and_true, ne_eq, not_false_eq_true, Nat.reduceLT, Nat.reduceLeDiff, decide_true, decide_false, Bool.or_false, Bool.false_or, Bool.not_true, Bool.not_false, rR, putL, List.map_cons, List.map_nil, List.set_cons_zero, List.set_cons_succ, f3, e1, f5, hjoin1, htwo, eq_nil, hPP, f7, hdg, han, hEq]
    rfl

noncomputable def resid (z : Int) : Nat := ((z * 1901).fmod 3072).toNat
theorem resid_lt (z : Int) : resid z < 3072 := by
  unfold resid
  have := Int.fmod_lt_of_pos (z * 1901) (show (0 : Int) < 3072 by decide)
  have := Int.fmod_nonneg_of_pos (z * 1901) (show (0 : Int) < 3072 by decide)
  omega
theorem resid_int (z : Int) : D.int ((z * 1901).fmod 3072) = intD (resid z) := by
  unfold resid intD
  have := Int.fmod_nonneg_of_pos (z * 1901) (show (0 : Int) < 3072 by decide)
  congr 1
  omega

theorem law_P (zs : List Int) : LawP (lawTr ((zs.take 6).map resid)) (zs.map D.int) := by
  have h3 : ∀ n ∈ (zs.take 6).map resid, n < 3072 := by
    intro n hn
    obtain ⟨z, _, rfl⟩ := List.mem_map.mp hn
    exact resid_lt z
  have hl : ((zs.take 6).map resid).length ≤ 6 := by simp; omega
  refine ⟨(law_run 0 _ h3 hl).1, fun S => ?_⟩
  obtain ⟨σ', e⟩ := (law_run S _ h3 hl).2
  refine ⟨((zs.take 6).map resid).map intD, σ', fun σ => ?_, ?_, ?_⟩
  · rw [← List.map_take, List.map_map]
    refine coll_map _ fun z hz => ⟨?_, rfl⟩
    rw [slot1]
    unfold ceN
    have hm : binD .Mult (.int z) (.int ((1901 : Nat) : Int)) = some (.int (z * 1901)) := by
      rw [bin_mul, if_pos (by decide)]; rfl
    have hq : binD .Mod (.int (z * 1901)) (.int ((3072 : Nat) : Int)) = some (intD (resid z)) := by
      rw [bin_mod, if_pos (by decide), ← resid_int]; rfl
    simp only [rE, List.isEmpty_nil, List.isEmpty_cons, Nat.reduceEqDiff, Nat.zero_le, beq_self_eq_true, Nat.reduceAdd, List.length_cons, List.length_nil, List.getElem?_cons_zero, List.getElem?_cons_succ, Option.getD_some, ↓reduceIte, and_self, true_and, and_true, ne_eq, not_false_eq_true, Nat.reduceLT, Nat.reduceLeDiff, decide_true, decide_false, Bool.or_false, Bool.false_or, Bool.not_true, Bool.not_false, hm, hq, someO_s]
    rfl
  · exact l_add' (by simp; omega)
  · rw [List.map_append] at e
    exact e
end Mine
end

/-! V1 -/
section
open PySem PySem.W PyProof.Rows PySem.Builtin.Re
set_option maxRecDepth 100000
set_option maxHeartbeats 8000000
namespace Mine

theorem wdefs_none : wdefsOf prg = [] := by rfl

section
variable {p : Program} {loose : List Str} {K : Frag} {w : World} {mg mb : Str → Option Value} {h : Heap} {mean : ExcName → Option Value}

theorem rec_of (hrec : recsOf prg = recsOf p) {f : Str} {d : DefRec} (e : defOf prg f = some (d, [])) : d ∈ recsOf p ∧ d.name = f := by
  unfold defOf at e
  rw [hrec, wdefs_none] at e
  split at e
  · rename_i d' hf
    split at e <;> cases e
    exact ⟨List.mem_of_find?_eq_some hf, beq_iff_eq.mp (List.find?_some (p := fun e : DefRec => e.name == f) hf)⟩
  · cases e

theorem not_tab {a : Addr} {o : Obj} {fd : FuncData} (ht : h.get? tabA = some (tabObj #[])) (e : h.get? a = some o) (hd : o.data = .func fd) : a ≠ tabA := by
  rintro rfl
  rw [ht] at e
  cases e
  cases hd

theorem def_at (hrec : recsOf prg = recsOf p) (T : Top p loose mean mg mb h) (ht : h.get? tabA = some (tabObj #[])) {f : Str} {d : DefRec} (e : defOf prg f = some (d, [])) : DefAt mg h f d.params d.body d.scope := by
  obtain ⟨hm, hn⟩ := rec_of hrec e
  obtain ⟨a, o, pm, code, doc, h1, h2, h3, h4⟩ := T.fn d hm
  rw [hn] at h1 h3 h4
  have h4' := h4
  obtain ⟨c, oc, us, tq, rfl, e2, e3⟩ := h4'
  refine ⟨a, o, pm, c, doc, h1, not_tab ht h2 h3, h2, h3, ?_, h4⟩
  rintro rfl
  rw [ht] at e2
  cases e2
  obtain ⟨e3, e4⟩ := e3
  cases e3
  simp at e4

noncomputable def freeOk (p : Program) (loose : List Str) : Bool := (["len", "chr", "range", "iter", "next", "list", "object"] : List Str).all fun x =>
  (!startupNames.contains x && !loose.contains x && !((recsOf p).map (·.name)).contains x) && (!((litsOf p).map (·.1)).contains x && !((clssOf p loose).map (·.name)).contains x)
theorem free_of (hf : freeOk p loose = true) (T : Top p loose mean mg mb h) {x : Str} (hx : x ∈ (["len", "chr", "range", "iter", "next", "list", "object"] : List Str)) : mg x = none := by
  have e := List.all_eq_true.mp hf x hx
  simp only [Bool.and_eq_true, Bool.not_eq_true', List.contains_eq_mem, decide_eq_false_iff_not] at e
  exact T.free x e.1.1.1 e.1.1.2 e.1.2 e.2.1 e.2.2
theorem built_of (hf : freeOk p loose = true) (T : Top p loose mean mg mb h) : Built mg mb :=
  ⟨⟨free_of hf T (by simp), (T.builtins _ (by decide)).trans (by decide +kernel)⟩,
   ⟨free_of hf T (by simp), (T.builtins _ (by decide)).trans (by decide +kernel)⟩,
   ⟨free_of hf T (by simp), (T.builtins _ (by decide)).trans (by decide +kernel)⟩,
   ⟨free_of hf T (by simp), (T.builtins _ (by decide)).trans (by decide +kernel)⟩,
   ⟨free_of hf T (by simp), (T.builtins _ (by decide)).trans (by decide +kernel)⟩,
   ⟨free_of hf T (by simp), (T.builtins _ (by decide)).trans (by decide +kernel)⟩,
   ⟨free_of hf T (by simp), (T.builtins _ (by decide)).trans (by decide +kernel)⟩⟩
theorem gnd_of (hrec : recsOf prg = recsOf p) (hf : freeOk p loose = true) (T : Top p loose mean mg mb h) (ht : h.get? tabA = some (tabObj #[])) : Gnd mg mb h := ⟨built_of hf T, fun _ _ e => def_at hrec T ht e⟩

noncomputable def vsAt (K : Frag) (a : Addr) (i : Nat) : Value := match K.lookup a with
  | some ⟨_, _, .fields vs, _⟩ => vs.getD i .none
  | _ => .none
noncomputable def seqAt (K : Frag) (a : Addr) : Array Value := match K.lookup a with
  | some ⟨_, _, .seq vs _, _⟩ => vs
  | _ => #[]
noncomputable def seqN (K : Frag) (a : Addr) : Nat := match K.lookup a with
  | some ⟨_, _, .seq _ n, _⟩ => n
  | _ => 0
noncomputable def sX : Value → Str
  | .str x _ => x
  | _ => ⟨#[]⟩
noncomputable def sT : Value → Tok
  | .str _ t => t
  | .int _ t => t
  | _ => 0
noncomputable def iX : Value → Int
  | .int i _ => i
  | _ => 0

/-- what the written part of the ground is asked -/
structure Asked (K : Frag) : Prop where
  p43 : K.lookup 43 = some { cls := .type "re.Pattern", data := .fields #[.str (sX (vsAt K 43 0)) (sT (vsAt K 43 0)), .int (iX (vsAt K 43 1)) (sT (vsAt K 43 1)), .int 1 (sT (vsAt K 43 2)), .none, .none, .ref 42, .int 0 (sT (vsAt K 43 6))] }
  p42 : K.lookup 42 = some { cls := .type "tuple", data := .seq (seqAt K 42) (seqN K 42) }
  c42 : ((seqAt K 42).map reRawOf).map (·.toNat) = codeL.toArray
  head : codeHdIn K 68 64 = true

noncomputable def Says (h : Heap) : Prop := (∃ m, h.Ns mainGlobals m ∧ m "_twin_re_1" = some (.ref 43) ∧ m "_translate" = some (.ref 69)) ∧ ∃ o fd, h.get? 69 = some o ∧ o.data = .func fd ∧ fd.code = .ref 68
theorem ns_eq {h : Heap} {a : Addr} {m n : Str → Option Value} (x : h.Ns a m) (y : h.Ns a n) : m = n := x.eq_nsMap.trans y.eq_nsMap.symm

theorem pat_of (Q : Asked K) (N : Says h) (T : Top p loose mean mg mb h) (KX : K.In h) : PatG mg h "_twin_re_1" 43 := by
  obtain ⟨m, hm, en, _⟩ := N.1
  cases ns_eq hm T.g
  refine ⟨en, ⟨_, _, _, _, _, _, _, KX 43 _ Q.p43, _, _, KX 42 _ Q.p42, Q.c42⟩, by decide, fun x t u v c k TT e => ?_⟩
  rw [KX 43 _ Q.p43] at e
  cases e
  decide
theorem lam_of (Q : Asked K) (T : Top p loose mean mg mb h) (KX : K.In h) (ht : h.get? tabA = some (tabObj #[])) : LamG mg h 68 := by
  refine ⟨codeHd_of_K (c := 68) (P := 64) KX Q.head, ?_⟩
  obtain ⟨bm, ob, h1, h2, h3, h4, h5, h6⟩ := T.bmain
  refine ⟨bm, ob, h1, h2, ?_, ?_, h3, h4, h5, h6⟩
  · rintro rfl
    obtain ⟨o, es, ep, e, hd, _⟩ := T.g
    rw [h3] at e
    cases e
    rw [h6] at hd
    cases hd
  · rintro rfl
    rw [ht] at h3
    cases h3
    cases h4
theorem tdef_tr (hrec : recsOf prg = recsOf p) (Q : Asked K) (N : Says h) (T : Top p loose mean mg mb h) (KX : K.In h) (ht : h.get? tabA = some (tabObj #[])) : TDef (LamG mg h) mg h "_translate" d_translate.params d_translate.body d_translate.scope := by
  obtain ⟨a, o, pm, cd, doc, h1, h2, h3, h4, h5, h6⟩ := def_at hrec T ht (f := "_translate") (d := d_translate) (by kernel_rfl)
  have hc : (Value.ref cd) = .ref 68 := by
    obtain ⟨⟨m, hm, _, en⟩, o', fd, e1, e2, e3⟩ := N
    cases ns_eq hm T.g
    cases en.symm.trans h1
    cases e1.symm.trans h3
    rw [h4] at e2
    cases e2
    exact e3
  cases hc
  exact ⟨a, o, pm, 68, doc, h1, h2, h3, h4, h5, h6, lam_of Q T KX ht⟩
theorem tdef_tr0 (hrec : recsOf prg = recsOf p) (T : Top p loose mean mg mb h) (ht : h.get? tabA = some (tabObj #[])) : TDef (fun _ => True) mg h "translate" d_translate0.params d_translate0.body d_translate0.scope := by
  obtain ⟨a, o, pm, cd, doc, h1, h2, h3, h4, h5, h6⟩ := def_at hrec T ht (f := "translate") (d := d_translate0) (by kernel_rfl)
  exact ⟨a, o, pm, cd, doc, h1, h2, h3, h4, h5, h6, trivial⟩

theorem good_of {c : ClaimW} {cl : Str → Option Addr} {mean : ExcName → Option Value} {args : List WData} {s₁ s' : Shared}
    (Q : Asked K) (KX : K.In s₁.heap) (ht : s₁.heap.get? tabA = some (tabObj #[])) (hg : s₁.gens = #[]) (hr : ∀ cls, c.raises args cls = false) (hp : c.post args (.bool true) args = true) (H : TKeep s₁ (fun a => a = tabA) s') :
    GoodWG c cl mean args s₁ (.ok (.ret (.bool true))) s' := by
  obtain ⟨k1, ⟨ps, k2, _, _⟩, _, k4, k5⟩ := H
  have hct : isCodeTable s₁.heap tabA := ((codeHd_of_K (c := 68) (P := 64) KX Q.head).tab ht).isCodeTable
  refine ⟨.inl ⟨_, _, [], rfl, hr, ReadsW.bool true, hp, fun _ => ⟨List.nodup_nil, fun _ hm => (nomatch hm)⟩⟩, ⟨fun b o e => ?_, fun b o e => ?_⟩, k4, k5 (.of_eq hg)⟩
  · by_cases hb : b = tabA
    · subst hb
      rw [ht] at e
      cases e
      exact .inr (.inl ⟨hct, rfl, #[], ps, rfl, by rw [Array.empty_append]; exact k2⟩)
    · exact .inl (k1 b o hb e)
  · by_cases hb : b = tabA
    · subst hb
      exact ⟨_, k2⟩
    · exact ⟨o, k1 b o hb e⟩
theorem den_ints {h : Heap} {X : Addr → Prop} : ∀ {vs : List Value} {zs : List Int}, IntsAre vs zs → DenL h X (zs.map D.int) vs
  | _, _, .nil => .nil
  | _, _, .cons _ _ r => .cons den_int (den_ints r)

theorem law_good {c : ClaimW} {cl : Str → Option Addr} {mean' : ExcName → Option Value} {args : List WData} {s₁ : Shared} {fa S : Addr} {vs : List Value} {zs : List Int}
    (T : Top p loose mean mg mb s₁.heap) (KX : K.In s₁.heap) (ht : s₁.heap.get? tabA = some (tabObj #[])) (hg : s₁.gens = #[]) (hmg : mg "law" = some (.ref fa)) (hL : s₁.heap.IsList S vs.toArray) (hI : IntsAre vs zs) (h63 : zs.length ≤ 63)
    (hrec : recsOf prg = recsOf p) (hf : freeOk p loose = true) (Q : Asked K) (N : Says s₁.heap) (hr : ∀ cls, c.raises args cls = false) (hp : c.post args (.bool true) args = true) :
    wpAny (model prg w) callerA (call (.ref fa) [.ref S]) (fun v s' => GoodWG c cl mean' args s₁ (.ok (.ret v)) s') (fun e s' => GoodWG c cl mean' args s₁ (.error e) s') s₁ := by
  obtain ⟨a, o', pm', cd', doc', h1, _, h3, h4, _, h6⟩ := def_at hrec T ht (f := "law") (d := d_law) (by kernel_rfl)
  rw [hmg] at h1
  cases h1
  refine enter_call (codeAny_mono (law_call (w := w) (gnd_of hrec hf T ht) (pat_of Q N T KX) (tdef_tr hrec Q N T KX ht) (tdef_tr0 hrec T ht) (fa := fa) (S := S) (cd := cd') (A := callerA) (s := s₁) (vs := vs.toArray) (ds := zs.map D.int) h3 h4 h6 ⟨rfl, by decide, by decide⟩ ⟨T.g, T.b, T.nolimit, fun _ _ _ e => e⟩ ht hL (by simpa using den_ints hI) ?_ (law_P zs)) fun r s' h => ?_)
  · rw [List.length_map]
    exact Nat.le_trans h63 (by decide)
  · obtain ⟨rfl, H⟩ := h
    exact good_of Q KX ht hg hr hp H
end
end Mine
end

/-! Y1 -/
section
open PySem PySem.W PyProof.Rows
set_option maxRecDepth 100000
set_option maxHeartbeats 0
namespace Mine
noncomputable abbrev prgY : Program := PySem.Challenge.rw_in0241_01.row.prog

noncomputable def fragY : Params → Frag := fun _ => [(42, { cls := .type "tuple", data := .seq #[.int 14 0, .int 14 0, .int 4 0, .int 1 0, .int 1 0, .int 9 0, .int 0 0, .int 64 0, .int 0 0, .int 1342177280 0, .int 0 0, .int 0 0, .int 0 0, .int 0 0, .int 0 0, .int 17 0, .int 0 0, .int 13 0, .int 11 0, .int 9 0, .int 0 0, .int 64 0, .int 0 0, .int 1342177280 0, .int 0 0, .int 0 0, .int 0 0, .int 0 0, .int 0 0, .int 17 0, .int 1 0, .int 1 0] }),
  (43, { cls := .type "re.Pattern", data := .fields #[.str "([&~|])" 296, .int 32 331, .int 1 0, .none, .none, .ref 42, .int 0 0] }),
  (68, { cls := .type "code", data := .fields #[.str "_translate" 499, .str "_translate" 500, .str "/claim/cut.py" 501, .int 26 0, .int 3 0, .int 0 0, .int 0 0, .int 3 0, .ref 63, .bool true, .int 276 0, .ref 64, .none, .ref 65, .ref 66, .ref 67, .int 515 0, .int 26 0, .str "/claim/cut.py" 516] })]
noncomputable def codeOfY (h : Heap) (a : Addr) : Option Value := match h.get? a with
  | some ⟨_, _, .func fd, _⟩ => some fd.code
  | _ => none
noncomputable def hookA : Hook := kmHook fragY [42, 43, 68] (fun _ => rfl) [64]
noncomputable def hookY : Hook where
  α := hookA.α × (Bool × Option Value × Option Value × Option Value)
  obs := fun s => (hookA.obs s, (s.heap.isNs mainGlobals, s.heap.nsMap mainGlobals "_twin_re_1", s.heap.nsMap mainGlobals "_translate", codeOfY s.heap 69))
  val := fun w => (hookA.val w, (true, some (.ref 43), some (.ref 69), some (.ref 68)))
  says := fun w h => hookA.says w h ∧ (∃ m, h.Ns mainGlobals m ∧ m "_twin_re_1" = some (.ref 43) ∧ m "_translate" = some (.ref 69)) ∧ ∃ o fd, h.get? 69 = some o ∧ o.data = .func fd ∧ fd.code = .ref 68
  of := fun w s x => by
    obtain ⟨x1, x2⟩ := Prod.mk.inj x
    obtain ⟨y1, x3⟩ := Prod.mk.inj x2
    obtain ⟨y2, x4⟩ := Prod.mk.inj x3
    obtain ⟨y3, y4⟩ := Prod.mk.inj x4
    refine ⟨hookA.of w s x1, ⟨_, .of_isNs y1, y2, y3⟩, ?_⟩
    unfold codeOfY at y4
    split at y4
    · rename_i fd _ e
      exact ⟨_, fd, e, rfl, Option.some.inj y4⟩
    · cases y4
  keeps := fun w h h' x k => ⟨hookA.keeps w h h' x.1 k, let ⟨m, a, b⟩ := x.2.1; ⟨m, a.keeps k, b⟩, let ⟨o, fd, a, b⟩ := x.2.2; ⟨o, fd, k _ _ a, b⟩⟩

noncomputable def notName : Stmt → Bool
  | .Assign [.Name n _] _ _ => n != "__name__"
  | _ => true
noncomputable def viewY : Program := { prgY with main := { prgY.main with body := prgY.main.body.filter notName } }
noncomputable def lsY : List Str := [Str.ofString "_twin_re_1", Str.ofString "_special_chars_map"]

noncomputable abbrev LeftY (w : World) : Prop := (openEnds treeTable prgY w 3900).map (fun s => (openSeen viewY lsY (importedModules prgY.main.body) (fun s => xlAt viewY [] s && recOk (RowW.records PySem.Challenge.rw_in0241_01.row.toRowW) s) true s, hookY.obs s)) = some (openGood viewY lsY, hookY.val w)
theorem left_ff : ∀ w : World, LeftY ((w.withFollow "comprehension-iter-twice" false).withFollow "special-get-raises" false) := fun w => by kernel_rfl
theorem left_ft : ∀ w : World, LeftY ((w.withFollow "comprehension-iter-twice" true).withFollow "special-get-raises" false) := fun w => by kernel_rfl
theorem left_tf : ∀ w : World, LeftY ((w.withFollow "comprehension-iter-twice" false).withFollow "special-get-raises" true) := fun w => by kernel_rfl
theorem left_tt : ∀ w : World, LeftY ((w.withFollow "comprehension-iter-twice" true).withFollow "special-get-raises" true) := fun w => by kernel_rfl
theorem left_f : ∀ w : World, LeftY (w.withFollow "special-get-raises" false) := byRow2 "comprehension-iter-twice" (P := fun w => LeftY (w.withFollow "special-get-raises" false)) left_ff left_ft
theorem left_t : ∀ w : World, LeftY (w.withFollow "special-get-raises" true) := byRow2 "comprehension-iter-twice" (P := fun w => LeftY (w.withFollow "special-get-raises" true)) left_tf left_tt
theorem left_all : LeftO prgY viewY lsY (fun s => xlAt viewY [] s && recOk (RowW.records PySem.Challenge.rw_in0241_01.row.toRowW) s) hookY.obs hookY.val 3900 := byRow2 "special-get-raises" (P := LeftY) left_f left_t
end Mine
end

open PySem PySem.W PyProof.Rows

namespace Mine
theorem says_of {w : World} {h : Heap} (Y : hookY.says w h) : (fragY w.params).In h ∧ h.get? 64 = some (tabObj #[]) ∧ Says h :=
  ⟨km_in_of Y.1, km_tabs_of Y.1 64 (by simp), Y.2.1, Y.2.2⟩
theorem asked_of (P : Params) : Asked (fragY P) := ⟨by kernel_rfl, by kernel_rfl, by kernel_rfl, by kernel_rfl⟩
end Mine

set_option maxRecDepth 100000 in
set_option maxHeartbeats 8000000 in
theorem PySem.Challenge.cw_in0241_01_holds : PySem.Challenge.rw_in0241_01.Holds := by
  w_on
  refine holds_law (by kernel_rfl) fun said => ?_
  refine holds_open (q := Mine.viewY) (loose := Mine.lsY) (Xt := fun s => xlAt Mine.viewY [] s && recOk (RowW.records PySem.Challenge.rw_in0241_01.row.toRowW) s) (XP := XL Mine.viewY []) (Yf := Mine.hookY.obs) (Ya := Mine.hookY.val) (YP := Mine.hookY.says) (N := 3900) Mine.left_all Mine.hookY.of Mine.hookY.keeps (fun s e => xl_of s (Bool.and_eq_true_iff.mp e).1) XL.keeps (by rfl) (by rfl) (by rfl) (fun s e => recFacts_of (Bool.and_eq_true_iff.mp e).2) (by rfl) (by decide +kernel) (by decide +kernel) ⟨rfl, rfl, rfl, rfl, rfl, by decide +kernel⟩ ?hw ?hc
  (case hw => w_witness2)
  w_strict (
    intro w s0 s1 mg mb G Y fa o pm cd doc dV kV ho hd hcd hD hmg hg args vals as hpre hlay hrd hwl hlo
    obtain ⟨KX, hT8, N⟩ := Mine.says_of Y
    have X := (Ground.X G).1
    have V := (Ground.X G).2
    refine Ground.open G ?_
    intro T B D TE TW
    wrow_args hpre hlay hrd hwl hlo
    rename_i zs hs9 hlay9 hL9 hr9 hl9 w49 w39 S vs w09 hL ra9 w19 r09 hI hr8 hcond hc9
    have h63 : zs.length ≤ 63 := by
      have hc := hcond
      simp only [Int.not_lt] at hc
      omega
    exact Mine.law_good T KX hT8 hg hmg hL hI h63 (by rfl) (by decide +kernel) (Mine.asked_of _) N (fun _ => rfl) (by wrow_post))
