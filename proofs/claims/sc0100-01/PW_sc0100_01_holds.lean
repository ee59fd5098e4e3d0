import PyProof.Rows.All
import Wide.All
import OpenK.AllK
import Wide.FinOn
import Lean
import PySem.Challenge.RW_sc0100_01
set_option Elab.async false
set_option maxRecDepth 100000
set_option linter.all false
set_option linter.unusedVariables false
set_option linter.unusedSimpArgs false
set_option exponentiation.threshold 2000
namespace Mine
open PySem PySem.W PyProof.Rows
set_option maxHeartbeats 8000000 in
open_top hd for PySem.Challenge.rw_sc0100_01
end Mine
/-! part 1 -/
namespace Mine
open PySem PySem.Calls PyProof.Rows
/-- plain values -/
inductive V where
  | none
  | bool (b : Bool)
  | int (i : Int)
  | str (s : List Nat)
  | list (l : List V)
  | tup (l : List V)
  | ws (norm : V)
/-- the frozen objects: they stand for good -/
noncomputable abbrev Fz := Addr → Option Obj
noncomputable def wsCls : Addr := 180
noncomputable def strOf (l : List Nat) : Str := ⟨l.toArray⟩
noncomputable def lim : Nat := 1048576
/-- a short text of ASCII signs -/
noncomputable def okS (x : List Nat) : Bool := decide (x.length ≤ lim) && x.all fun c => decide (c < 128)
theorem okS_iff {x : List Nat} : okS x = true ↔ x.length ≤ lim ∧ ∀ c ∈ x, c < 128 := by simp [okS]
mutual
/-- the value v stands for p, through frozen objects -/
inductive Rep (F : Fz) : Value → V → Prop where
  | none : Rep F .none .none
  | bool (b : Bool) : Rep F (.bool b) (.bool b)
  | int (i : Int) (t : Tok) : Rep F (.int i t) (.int i)
  | str (x : List Nat) (t : Tok) (hx : okS x = true) : Rep F (.str (strOf x) t) (.str x)
  | list {a : Addr} {vs : List Value} {n : Nat} {ps : List V} (h : F a = some ⟨.type "list", .none, .seq vs.toArray n, #[]⟩) (r : Reps F vs ps) (hl : ps.length ≤ lim) : Rep F (.ref a) (.list ps)
  | tup {a : Addr} {vs : List Value} {n : Nat} {ps : List V} (h : F a = some ⟨.type "tuple", .none, .seq vs.toArray n, #[]⟩) (r : Reps F vs ps) (hl : ps.length ≤ lim) : Rep F (.ref a) (.tup ps)
  | ws {a d : Addr} {es : Array DictEntry} {n : Nat} {od : Obj} {v : Value} {p : V} (h : F a = some ⟨.ref wsCls, some d, .plain, #[]⟩) (hd : F d = some od) (hdat : od.data = .dict es n)
      (hk : StrKeys es) (hv : nsFind es (Str.ofString "norm") = some v) (hne : nsFind es (Str.ofString "equal") = .none) (r : Rep F v p) : Rep F (.ref a) (.ws p)
inductive Reps (F : Fz) : List Value → List V → Prop where
  | nil : Reps F [] []
  | cons {v : Value} {vs : List Value} {p : V} {ps : List V} (h : Rep F v p) (t : Reps F vs ps) : Reps F (v :: vs) (p :: ps)
end
theorem rep_none {F : Fz} {v : Value} (h : Rep F v .none) : v = .none := by cases h; rfl
theorem rep_bool {F : Fz} {v : Value} {b : Bool} (h : Rep F v (.bool b)) : v = .bool b := by cases h; rfl
theorem rep_int {F : Fz} {v : Value} {i : Int} (h : Rep F v (.int i)) : ∃ t, v = .int i t := by cases h; exact ⟨_, rfl⟩
theorem rep_str {F : Fz} {v : Value} {x : List Nat} (h : Rep F v (.str x)) : ∃ t, v = .str (strOf x) t ∧ okS x = true := by
  cases h with
  | str _ t hx => exact ⟨t, rfl, hx⟩
theorem rep_list {F : Fz} {v : Value} {ps : List V} (h : Rep F v (.list ps)) : ∃ a vs n, v = .ref a ∧ F a = some ⟨.type "list", none, .seq vs.toArray n, #[]⟩ ∧ Reps F vs ps ∧ ps.length ≤ lim := by
  cases h with
  | list e r hl => exact ⟨_, _, _, rfl, e, r, hl⟩
theorem reps_one {F : Fz} {vs : List Value} {p : V} (h : Reps F vs [p]) : ∃ v, vs = [v] ∧ Rep F v p := by
  cases h with
  | cons h t => cases t; exact ⟨_, rfl, h⟩
theorem rep_pair {F : Fz} {v : Value} {p q : V} (h : Rep F v (.tup [p, q])) : ∃ a v1 v2 m, v = .ref a ∧ F a = some ⟨.type "tuple", none, .seq [v1, v2].toArray m, #[]⟩ ∧ Rep F v1 p ∧ Rep F v2 q := by
  cases h with
  | tup e r hl =>
    cases r with
    | cons h1 r =>
      obtain ⟨v2, rfl, h2⟩ := reps_one r
      exact ⟨_, _, _, _, rfl, e, h1, h2⟩
theorem reps_nil {F : Fz} {vs : List Value} (h : Reps F vs []) : vs = [] := by cases h; rfl
noncomputable def Fz.le (F G : Fz) : Prop := ∀ a o, F a = some o → G a = some o
theorem Rep.mono {F G : Fz} (hle : F.le G) {v : Value} {p : V} (h : Rep F v p) : Rep G v p :=
  Rep.rec (motive_1 := fun v p _ => Rep G v p) (motive_2 := fun vs ps _ => Reps G vs ps) .none .bool .int .str (fun e _ hl r => .list (hle _ _ e) r hl) (fun e _ hl r => .tup (hle _ _ e) r hl) (fun h hd hdat hk hv hne _ r => .ws (hle _ _ h) (hle _ _ hd) hdat hk hv hne r) .nil (fun _ _ h t => .cons h t) h
theorem Reps.ind {F : Fz} {P : List Value → List V → Prop} (h0 : P [] []) (h1 : ∀ {v : Value} {vs : List Value} {p : V} {ps : List V}, Rep F v p → Reps F vs ps → P vs ps → P (v :: vs) (p :: ps)) {vs : List Value} {ps : List V} (h : Reps F vs ps) : P vs ps :=
  Reps.rec (motive_1 := fun _ _ _ => True) (motive_2 := fun vs ps _ => P vs ps) trivial (fun _ => trivial) (fun _ _ => trivial) (fun _ _ _ => trivial) (fun _ _ _ _ => trivial) (fun _ _ _ _ => trivial) (fun _ _ _ _ _ _ _ _ => trivial) h0 (fun a b _ c => h1 a b c) h
theorem Reps.mono {F G : Fz} (hle : F.le G) {vs : List Value} {ps : List V} (h : Reps F vs ps) : Reps G vs ps := Reps.ind (P := Reps G) .nil (fun h _ ih => .cons (Rep.mono hle h) ih) h
theorem Fz.le_refl (F : Fz) : F.le F := fun _ _ e => e
theorem Fz.le_trans {F G H : Fz} (a : F.le G) (b : G.le H) : F.le H := fun x o e => b x o (a x o e)
theorem Reps.length {F : Fz} {vs : List Value} {ps : List V} (h : Reps F vs ps) : vs.length = ps.length := Reps.ind (P := fun vs ps => vs.length = ps.length) rfl (fun _ _ ih => congrArg Nat.succ ih) h
theorem Reps.get {F : Fz} {vs : List Value} {ps : List V} (h : Reps F vs ps) : ∀ {i : Nat} {v : Value}, vs[i]? = some v → ∃ p, ps[i]? = some p ∧ Rep F v p :=
  Reps.ind (P := fun vs ps => ∀ {i : Nat} {v : Value}, vs[i]? = some v → ∃ p, ps[i]? = some p ∧ Rep F v p) (fun e => by simp at e) (fun {_ _ p _} h _ ih i w e => by
    cases i with
    | zero => cases Option.some.inj e; exact ⟨p, rfl, h⟩
    | succ i => exact ih e) h
theorem Reps.get' {F : Fz} {vs : List Value} {ps : List V} (h : Reps F vs ps) : ∀ {i : Nat} {p : V}, ps[i]? = some p → ∃ v, vs[i]? = some v ∧ Rep F v p :=
  Reps.ind (P := fun vs ps => ∀ {i : Nat} {p : V}, ps[i]? = some p → ∃ v, vs[i]? = some v ∧ Rep F v p) (fun e => by simp at e) (fun {v _ _ _} h _ ih i w e => by
    cases i with
    | zero => cases Option.some.inj e; exact ⟨v, rfl, h⟩
    | succ i => exact ih e) h
theorem Reps.append {F : Fz} {vs ws : List Value} {ps qs : List V} (h : Reps F vs ps) (r : Reps F ws qs) : Reps F (vs ++ ws) (ps ++ qs) := Reps.ind (P := fun vs ps => Reps F (vs ++ ws) (ps ++ qs)) r (fun h _ ih => .cons h ih) h
theorem Reps.snoc {F : Fz} {vs : List Value} {ps : List V} {v : Value} {p : V} (r : Reps F vs ps) (h : Rep F v p) : Reps F (vs ++ [v]) (ps ++ [p]) := r.append (.cons h .nil)
theorem Reps.take {F : Fz} {vs : List Value} {ps : List V} (h : Reps F vs ps) : ∀ (k : Nat), Reps F (vs.take k) (ps.take k) :=
  Reps.ind (P := fun vs ps => ∀ k, Reps F (vs.take k) (ps.take k)) (fun k => by rw [List.take_nil, List.take_nil]; exact .nil) (fun h _ ih k => by
    cases k with
    | zero => exact .nil
    | succ k => exact .cons h (ih k)) h
theorem Reps.drop {F : Fz} {vs : List Value} {ps : List V} (h : Reps F vs ps) : ∀ (k : Nat), Reps F (vs.drop k) (ps.drop k) :=
  Reps.ind (P := fun vs ps => ∀ k, Reps F (vs.drop k) (ps.drop k)) (fun k => by rw [List.drop_nil, List.drop_nil]; exact .nil) (fun h t ih k => by
    cases k with
    | zero => exact .cons h t
    | succ k => exact ih k) h
theorem Reps.reverse {F : Fz} {vs : List Value} {ps : List V} (h : Reps F vs ps) : Reps F vs.reverse ps.reverse :=
  Reps.ind (P := fun vs ps => Reps F vs.reverse ps.reverse) .nil (fun h _ ih => by rw [List.reverse_cons, List.reverse_cons]; exact ih.snoc h) h
theorem Reps.set {F : Fz} {vs : List Value} {ps : List V} (h : Reps F vs ps) : ∀ (k : Nat) {v : Value} {p : V}, Rep F v p → Reps F (vs.set k v) (ps.set k p) :=
  Reps.ind (P := fun vs ps => ∀ (k : Nat) {v : Value} {p : V}, Rep F v p → Reps F (vs.set k v) (ps.set k p)) (fun _ _ _ _ => .nil) (fun h t ih k _ _ r => by
    cases k with
    | zero => exact .cons r t
    | succ k => exact .cons h (ih k r)) h
theorem Reps.replicate {F : Fz} {v : Value} {p : V} (r : Rep F v p) : ∀ (k : Nat), Reps F (List.replicate k v) (List.replicate k p)
  | 0 => .nil
  | k + 1 => .cons r (Reps.replicate r k)
theorem Reps.ofInts {F : Fz} (f : Int → Tok) : ∀ (l : List Int), Reps F (l.map fun i => Value.int i (f i)) (l.map V.int)
  | [] => .nil
  | i :: l => .cons (.int i _) (Reps.ofInts f l)
/-- the two tables of the makers of defs -/
noncomputable def tabs : List Addr := [75, 68]
noncomputable abbrev prg : Program := PySem.Challenge.rw_sc0100_01.row.prog
structure Base where
  w : World
  h₁ : Heap
/-- a maker's table: empty, or the one code of the def inside -/
noncomputable def tabLine (P : Addr) : Int := if P = 75 then 99 else 84
noncomputable def tabQual (P : Addr) : Str := if P = 75 then Str.ofString "_digits2int.<locals>.inner" else Str.ofString "_int2digits.<locals>.inner"
noncomputable def TabAt (F : Fz) (h : Heap) (P : Addr) : Prop := ∃ vs : Array Value, h.get? P = some (PySem.W.tabObj vs) ∧
  (vs = #[] ∨ ∃ c o fs t, vs = #[rawInt (tabLine P), rawInt 4, .ref c] ∧ F c = some o ∧ o.data = .fields fs ∧ fs[1]? = some (.str (tabQual P) t))
structure St (B : Base) (F : Fz) (h : Heap) : Prop where
  sub : ∀ a o, F a = some o → h.get? a = some o
  base : ∀ a o, B.h₁.get? a = some o → F a = some o
  tab : ∀ P ∈ tabs, TabAt F h P ∧ F P = none
/-- a step of an expression: all that stands is kept, but for the tables -/
structure Next (B : Base) (F : Fz) (s : Shared) (F' : Fz) (s' : Shared) : Prop where
  shape : ∃ h' tk, s' = { s with heap := h', toks := tk }
  ext : F.le F'
  st : St B F' s'.heap
  keep : ∀ b o, b ∉ tabs → s.heap.get? b = some o → s'.heap.get? b = some o
  new : ∀ a o, F' a = some o → F a = some o ∨ s.heap.get? a = none
theorem St.there {B : Base} {F : Fz} {h : Heap} (S : St B F h) {P : Addr} (hP : P ∈ tabs) : ∃ o, h.get? P = some o := let ⟨vs, e, _⟩ := (S.tab P hP).1; ⟨_, e⟩
theorem Next.there {B : Base} {F F' : Fz} {s s' : Shared} (n : Next B F s F' s') {b : Addr} {o : Obj} (e : s.heap.get? b = some o) : ∃ o', s'.heap.get? b = some o' := by
  by_cases hb : b ∈ tabs
  · exact n.st.there hb
  · exact ⟨o, n.keep b o hb e⟩
theorem Next.gone {B : Base} {F F' : Fz} {s s' : Shared} (n : Next B F s F' s') {b : Addr} (e : s'.heap.get? b = none) : s.heap.get? b = none := by
  cases q : s.heap.get? b with
  | none => rfl
  | some o => obtain ⟨o', z⟩ := n.there q; rw [e] at z; cases z
theorem Next.refl {B : Base} {F : Fz} {s : Shared} (S : St B F s.heap) : Next B F s F s :=
  ⟨⟨s.heap, s.toks, rfl⟩, F.le_refl, S, fun _ _ _ e => e, fun _ _ e => .inl e⟩
theorem Next.toks {B : Base} {F : Fz} {s : Shared} (S : St B F s.heap) (t : Nat) : Next B F s F { s with toks := t } :=
  ⟨⟨s.heap, t, rfl⟩, F.le_refl, S, fun _ _ _ e => e, fun _ _ e => .inl e⟩
theorem Next.trans {B : Base} {F F' F'' : Fz} {s s' s'' : Shared} (a : Next B F s F' s') (b : Next B F' s' F'' s'') : Next B F s F'' s'' := by
  obtain ⟨h1, t1, rfl⟩ := a.shape
  obtain ⟨h2, t2, rfl⟩ := b.shape
  refine ⟨⟨h2, t2, rfl⟩, Fz.le_trans a.ext b.ext, b.st, fun x o hx e => b.keep x o hx (a.keep x o hx e), fun x o e => ?_⟩
  rcases b.new x o e with e | e
  · exact a.new x o e
  · exact .inr (a.gone e)
theorem TabAt.keeps {F F' : Fz} {h h' : Heap} {P : Addr} (x : TabAt F h P) (le : F.le F') (k : ∀ o, h.get? P = some o → h'.get? P = some o) : TabAt F' h' P := by
  obtain ⟨vs, h1, h2⟩ := x
  refine ⟨vs, k _ h1, ?_⟩
  rcases h2 with h2 | ⟨c, o, fs, t, e1, e2, e3, e4⟩
  · exact .inl h2
  · exact .inr ⟨c, o, fs, t, e1, le _ _ e2, e3, e4⟩
theorem St.none {B : Base} {F : Fz} {h : Heap} (S : St B F h) {a : Addr} (e : h.get? a = none) : F a = none := by
  cases q : F a with
  | none => rfl
  | some o => rw [S.sub a o q] at e; cases e
/-- another heap that holds the same frozen objects and the same tables -/
theorem St.keeps' {B : Base} {F : Fz} {h h' : Heap} (S : St B F h) (k : ∀ b o, F b = some o → h.get? b = some o → h'.get? b = some o) (kt : ∀ b o, b ∈ tabs → h.get? b = some o → h'.get? b = some o) : St B F h' :=
  ⟨fun a o e => k _ _ e (S.sub a o e), S.base, fun P hP => ⟨(S.tab P hP).1.keeps F.le_refl fun o e => kt _ _ hP e, (S.tab P hP).2⟩⟩
theorem St.keeps {B : Base} {F : Fz} {h h' : Heap} (S : St B F h) (k : ∀ b o, h.get? b = some o → h'.get? b = some o) : St B F h' :=
  S.keeps' (fun b o _ e => k b o e) fun b o _ e => k b o e
theorem Next.keeps {B : Base} {F : Fz} {s : Shared} (S : St B F s.heap) {h' : Heap} {t : Nat} (k : ∀ b o, s.heap.get? b = some o → h'.get? b = some o) : Next B F s F { s with heap := h', toks := t } :=
  ⟨⟨h', t, rfl⟩, F.le_refl, S.keeps k, fun b o _ e => k b o e, fun _ _ e => .inl e⟩
/-- freeze one more object that the heap holds -/
noncomputable def Fz.put (F : Fz) (a : Addr) (o : Obj) : Fz := fun x => if x = a then some o else F x
theorem Fz.le_put {F : Fz} {a : Addr} {o : Obj} (h : F a = none) : F.le (F.put a o) := fun x o' e => by
  unfold Fz.put
  split
  · rename_i q; subst q; rw [h] at e; cases e
  · exact e
theorem Fz.put_self {F : Fz} {a : Addr} {o : Obj} : (F.put a o) a = some o := by simp [Fz.put]
theorem Fz.put_of {F : Fz} {a x : Addr} {o o' : Obj} (e : (F.put a o) x = some o') : (x = a ∧ o' = o) ∨ F x = some o' := by
  unfold Fz.put at e
  split at e
  · rename_i q; cases e; exact .inl ⟨q, rfl⟩
  · exact .inr e
theorem Fz.put_ne {F : Fz} {a x : Addr} {o : Obj} (e : x ≠ a) : (F.put a o) x = F x := if_neg e
theorem St.put {B : Base} {F : Fz} {h : Heap} (S : St B F h) {a : Addr} {o : Obj} (e : h.get? a = some o) (hn : F a = Option.none) (ht : a ∉ tabs) : St B (F.put a o) h :=
  ⟨fun x o' q => by
      rcases Fz.put_of q with ⟨rfl, rfl⟩ | q
      · exact e
      · exact S.sub x o' q,
    fun x o' q => Fz.le_put hn _ _ (S.base x o' q), fun P hP => ⟨(S.tab P hP).1.keeps (Fz.le_put hn) fun _ e => e, by
      rw [Fz.put_ne (by rintro rfl; exact ht hP)]; exact (S.tab P hP).2⟩⟩
theorem St.notTab {B : Base} {F : Fz} {h : Heap} (S : St B F h) {a : Addr} (e : h.get? a = Option.none) : a ∉ tabs := fun hm => by
  obtain ⟨o, z⟩ := S.there hm; rw [e] at z; cases z
/-- a step that keeps all and freezes one new object -/
theorem Next.made {B : Base} {F : Fz} {s : Shared} (S : St B F s.heap) {h' : Heap} {t : Nat} {a : Addr} {o : Obj} (k : ∀ b o, s.heap.get? b = some o → h'.get? b = some o)
    (hn : s.heap.get? a = none) (ho : h'.get? a = some o) : Next B F s (F.put a o) { s with heap := h', toks := t } :=
  ⟨⟨h', t, rfl⟩, Fz.le_put (S.none hn), (S.keeps k).put ho (S.none hn) (S.notTab hn), fun b o _ e => k b o e, fun x o' e => by
      rcases Fz.put_of e with ⟨rfl, rfl⟩ | e
      · exact .inr hn
      · exact .inl e⟩
theorem get_size (h : Heap) : h.get? h.objs.size = none := by
  cases q : h.get? h.objs.size with
  | none => rfl
  | some o => exact absurd (Heap.lt_size q) (Nat.lt_irrefl _)
theorem get_ge {h : Heap} {a : Addr} (ha : h.objs.size ≤ a) : h.get? a = none := by
  cases q : h.get? a with
  | none => rfl
  | some o => exact absurd (Heap.lt_size q) (Nat.not_lt.mpr ha)
/-- what the surroundings must leave room for -/
structure AOk (n : Nat) (A : Around) : Prop where
  handled : A.handled = none
  depth : A.depth + 8 * n < recursionLimit
  units : A.units + 100 * n < cLine
theorem AOk.mono {n m : Nat} {A : Around} (h : AOk n A) (hm : m ≤ n) : AOk m A := ⟨h.handled, by have := h.depth; (first | lia | omega), by have := h.units; (first | lia | omega)⟩
/-- the tree does its work: it ends in a value with R -/
noncomputable def Do {α : Type} (B : Base) (A : Around) (F : Fz) (s : Shared) (m : Sem α) (R : Fz → Shared → α → Prop) : Prop :=
  ∀ (Q : α → Shared → Prop) (E : Value → Shared → Prop), (∀ v s' F', Next B F s F' s' → R F' s' v → Q v s') → wpAny (model prg B.w) A m Q E s
section
variable {B : Base} {A : Around} {F : Fz} {s : Shared} {α β : Type}
theorem Do.bind {m : Sem α} {k : α → Sem β} {R : Fz → Shared → α → Prop} {R' : Fz → Shared → β → Prop} (h : Do B A F s m R) (hk : ∀ v s' F', Next B F s F' s' → R F' s' v → Do B A F' s' (k v) R') : Do B A F s (m >>= k) R' :=
  fun Q E hQ => wpAny_bind (h _ E fun v s' F' n r => hk v s' F' n r Q E fun v' s'' F'' n' r' => hQ v' s'' F'' (n.trans n') r')
theorem Do.pure {v : α} {R : Fz → Shared → α → Prop} (S : St B F s.heap) (h : R F s v) : Do B A F s (Pure.pure v) R := fun _ _ hQ => wpAny_pure (hQ _ _ _ (.refl S) h)
theorem Do.mono {m : Sem α} {R R' : Fz → Shared → α → Prop} (h : Do B A F s m R) (hr : ∀ F' s' v, Next B F s F' s' → R F' s' v → R' F' s' v) : Do B A F s m R' := fun Q E hQ => h Q E fun v s' F' n r => hQ v s' F' n (hr _ _ _ n r)
theorem Do.eq {m m' : Sem α} {R : Fz → Shared → α → Prop} (e : m = m') (h : Do B A F s m' R) : Do B A F s m R := e ▸ h
/-- a tree that only looks, or that draws marks -/
theorem Do.of {m : Sem α} {R : Fz → Shared → α → Prop} (h : ∀ (Q : α → Shared → Prop) (E : Value → Shared → Prop), (∀ v s' F', Next B F s F' s' → R F' s' v → Q v s') → wpAny (model prg B.w) A m Q E s) : Do B A F s m R := h
end
/-- objects that a frame may still change -/
inductive AO where
  | dead
  | list (l : List V)
  | inst (fs : List (List Nat × V))
noncomputable abbrev AH := List AO
/-- a dict of names, with how many they are at most -/
noncomputable def NsS (h : Heap) (d : Addr) (m : Str → Option Value) (N : Nat) : Prop := ∃ o es ep, h.get? d = some o ∧ o.data = .dict es ep ∧ StrKeys es ∧ es.size ≤ N ∧ ∀ name, nsFind es name = m name
noncomputable def MuAt (F : Fz) (h : Heap) : List Addr → AO → Prop
  | _, .dead => True
  | fp, .list l => ∃ a vs n, fp = [a] ∧ F a = none ∧ h.get? a = some ⟨.type "list", none, .seq vs.toArray n, #[]⟩ ∧ Reps F vs l ∧ l.length ≤ lim
  | fp, .inst fs => ∃ a d m, fp = [a, d] ∧ F a = none ∧ F d = none ∧ h.get? a = some ⟨.ref wsCls, some d, .plain, #[]⟩ ∧ NsS h d m fs.length ∧
      ∀ x : List Nat, match fs.lookup x with
        | some p => ∃ v, m (strOf x) = some v ∧ Rep F v p
        | none => m (strOf x) = none
noncomputable abbrev Mus := List (List Addr)
structure Mu (F : Fz) (μ : Mus) (σ : AH) (h : Heap) : Prop where
  len : μ.length = σ.length
  at' : ∀ (i : Nat) (fp : List Addr) (o : AO), μ[i]? = some fp → σ[i]? = some o → MuAt F h fp o
  nodup : μ.flatten.Nodup
  notab : ∀ a ∈ μ.flatten, a ∉ tabs
  there : ∀ a ∈ μ.flatten, ∃ o, h.get? a = some o
/-- kinds of a frame's names -/
inductive Kd where
  | loc | own | cap
  deriving DecidableEq
noncomputable abbrev Names := List (Str × Kd)
/-- what a name of a frame holds -/
inductive Sl where
  | undef
  | val (v : V)
  | ref (n : Nat)
  | fnv (a : Addr)
noncomputable abbrev Cx := List Sl
noncomputable def SlRep (F : Fz) (μ : Mus) (v : Value) : Sl → Prop
  | .undef => True
  | .val p => Rep F v p
  | .ref n => ∃ a r, v = .ref a ∧ μ[n]? = some (a :: r)
  | .fnv a => v = .ref a
noncomputable def Holds (F : Fz) (μ : Mus) (env : Env) (h : Heap) (x : Str) (k : Kd) (p : Sl) : Prop :=
  p ≠ .undef → if k = .loc then ∃ m v, h.Ns env.locals m ∧ m x = some v ∧ SlRep F μ v p else ∃ c v, env.cells.lookup x = some c ∧ h.IsCell c (some v) ∧ SlRep F μ v p
noncomputable def Kinds (env : Env) (x : Str) : Kd → Prop
  | .loc => env.kindOf x = some .local
  | .own => env.kindOf x = some .cell ∧ ∃ c, env.cells.lookup x = some c
  | .cap => (env.kindOf x = some .cell ∨ env.kindOf x = some .free) ∧ ∃ c, env.cells.lookup x = some c
/-- the frame's own addresses -/
noncomputable def Own (env : Env) (xs : Names) (a : Addr) : Prop := a = env.locals ∨ ∃ x, (x, Kd.own) ∈ xs ∧ env.cells.lookup x = some a
noncomputable def Away (F : Fz) (μ : Mus) (a : Addr) : Prop := F a = none ∧ a ∉ tabs ∧ a ∉ μ.flatten
/-- the frame, its names' values -/
structure Rd (F : Fz) (μ : Mus) (xs : Names) (gs : List Str) (env : Env) (Γ : Cx) (h : Heap) : Prop where
  glob : env.globals = mainGlobals
  bui : env.builtins = builtinsNs
  fn : env.scope.kind = .function
  len : Γ.length = xs.length
  knd : ∀ x k, (x, k) ∈ xs → Kinds env x k
  gl : ∀ x ∈ gs, env.kindOf x = some .globalImplicit
  has : ∀ (i : Nat) (x : Str) (k : Kd) (p : Sl), xs[i]? = some (x, k) → Γ[i]? = some p → Holds F μ env h x k p
  names : (xs.map (·.1)).Nodup
  nodbg : ∀ x k, (x, k) ∈ xs → (x == ("__debug__" : Str)) = false ∧ (x == ("__classdict__" : Str)) = false
  loc : ∃ m, h.Ns env.locals m
  cel : ∀ x c, env.cells.lookup x = some c → ∃ v, h.IsCell c v
  apart : ∀ x y c, env.cells.lookup x = some c → env.cells.lookup y = some c → x = y
  locC : ∀ x c, env.cells.lookup x = some c → c ≠ env.locals
  locF : Away F μ env.locals
  celF : ∀ x c, env.cells.lookup x = some c → Away F μ c
theorem SlRep.mono {F F' : Fz} {μ μ' : Mus} (le : F.le F') (hμ : ∃ ν, μ' = μ ++ ν) {v : Value} : ∀ {p : Sl}, SlRep F μ v p → SlRep F' μ' v p
  | .undef, _ => trivial
  | .val _, r => Rep.mono le r
  | .ref n, ⟨a, r, e1, e2⟩ => ⟨a, r, e1, by
      obtain ⟨ν, rfl⟩ := hμ
      rw [List.getElem?_append_left (by have := List.getElem?_eq_some_iff.mp e2; exact this.1)]; exact e2⟩
  | .fnv _, r => r
theorem Rd.ownAway {F : Fz} {μ : Mus} {xs : Names} {gs : List Str} {env : Env} {Γ : Cx} {h : Heap} (R : Rd F μ xs gs env Γ h) {a : Addr} (o : Own env xs a) : Away F μ a := by
  rcases o with rfl | ⟨x, _, e⟩
  · exact R.locF
  · exact R.celF x a e
theorem Holds.keeps {F F' : Fz} {μ μ' : Mus} {env : Env} {h h' : Heap} {x : Str} {k : Kd} {p : Sl} (H : Holds F μ env h x k p) (le : F.le F') (hμ : ∃ ν, μ' = μ ++ ν)
    (kL : k = .loc → ∀ m, h.Ns env.locals m → ∃ m', h'.Ns env.locals m' ∧ m' x = m x) (kc : k ≠ .loc → ∀ c o, env.cells.lookup x = some c → h.get? c = some o → h'.get? c = some o) : Holds F' μ' env h' x k p := by
  intro hp
  have H := H hp
  by_cases hk : k = .loc
  · rw [if_pos hk] at H ⊢
    obtain ⟨m, v, hn, hm, r⟩ := H
    obtain ⟨m', hn', e⟩ := kL hk m hn
    exact ⟨m', v, hn', e.trans hm, r.mono le hμ⟩
  · rw [if_neg hk] at H ⊢
    obtain ⟨c, v, hc, ⟨o, ho, hd⟩, r⟩ := H
    exact ⟨c, v, hc, ⟨o, kc hk c o hc ho, hd⟩, r.mono le hμ⟩
theorem Next.away {B : Base} {F F' : Fz} {s s' : Shared} (n : Next B F s F' s') {a : Addr} (h : F a = none) (ht : ∃ o, s.heap.get? a = some o) : F' a = none := by
  cases q : F' a with
  | none => rfl
  | some o =>
    rcases n.new a o q with e | e
    · rw [h] at e; cases e
    · obtain ⟨o', z⟩ := ht; rw [e] at z; cases z
theorem Rd.next {B : Base} {F F' : Fz} {μ : Mus} {xs : Names} {gs : List Str} {env : Env} {Γ : Cx} {s s' : Shared} (R : Rd F μ xs gs env Γ s.heap) (n : Next B F s F' s') : Rd F' μ xs gs env Γ s'.heap where
  glob := R.glob
  bui := R.bui
  fn := R.fn
  len := R.len
  knd := R.knd
  gl := R.gl
  names := R.names
  nodbg := R.nodbg
  apart := R.apart
  locC := R.locC
  has := fun i x k p e1 e2 => (R.has i x k p e1 e2).keeps n.ext ⟨[], (List.append_nil _).symm⟩
    (fun _ m hn => ⟨m, hn.at' fun o e => n.keep _ _ R.locF.2.1 e, rfl⟩) fun _ c o hc e => n.keep _ _ (R.celF x c hc).2.1 e
  loc := let ⟨m, hn⟩ := R.loc; ⟨m, hn.at' fun o e => n.keep _ _ R.locF.2.1 e⟩
  cel := fun x c e => let ⟨v, o, ho, hd⟩ := R.cel x c e; ⟨v, o, n.keep _ _ (R.celF x c e).2.1 ho, hd⟩
  locF := ⟨n.away R.locF.1 (let ⟨m, o, _, _, e, _⟩ := R.loc; ⟨o, e⟩), R.locF.2⟩
  celF := fun x c e => ⟨n.away (R.celF x c e).1 (let ⟨v, o, ho, _⟩ := R.cel x c e; ⟨o, ho⟩), (R.celF x c e).2⟩
theorem MuAt.keeps {F F' : Fz} {h h' : Heap} {fp : List Addr} : ∀ {o : AO}, MuAt F h fp o → F.le F' → (∀ a ∈ fp, F a = none → F' a = none) → (∀ a ∈ fp, ∀ o, h.get? a = some o → h'.get? a = some o) → MuAt F' h' fp o
  | .dead, _, _, _, _ => trivial
  | .list l, ⟨a, vs, n, e1, e2, e3, r, hl⟩, le, hf, hk => ⟨a, vs, n, e1, hf a (by rw [e1]; exact .head _) e2, hk a (by rw [e1]; exact .head _) _ e3, r.mono le, hl⟩
  | .inst fs, ⟨a, d, m, e1, e2, e3, e4, e5, hx⟩, le, hf, hk => ⟨a, d, m, e1, hf a (by rw [e1]; exact .head _) e2, hf d (by rw [e1]; exact .tail _ (.head _)) e3, hk a (by rw [e1]; exact .head _) _ e4,
      (let ⟨o, es, ep, q1, q2⟩ := e5; ⟨o, es, ep, hk d (by rw [e1]; exact .tail _ (.head _)) o q1, q2⟩), fun x => by
        have := hx x
        split at this
        · obtain ⟨v, e, r⟩ := this; exact ⟨v, e, r.mono le⟩
        · exact this⟩
theorem mem_flatten_of {μ : Mus} {i : Nat} {fp : List Addr} {a : Addr} (e : μ[i]? = some fp) (h : a ∈ fp) : a ∈ μ.flatten := List.mem_flatten.mpr ⟨fp, List.mem_of_getElem? e, h⟩
theorem Mu.next {B : Base} {F F' : Fz} {μ : Mus} {σ : AH} {s s' : Shared} (X : Mu F μ σ s.heap) (n : Next B F s F' s') : Mu F' μ σ s'.heap where
  len := X.len
  at' := fun i fp o e1 e2 => (X.at' i fp o e1 e2).keeps n.ext (fun a ha hn => n.away hn (X.there a (mem_flatten_of e1 ha))) fun a ha o e => n.keep _ _ (X.notab a (mem_flatten_of e1 ha)) e
  nodup := X.nodup
  notab := X.notab
  there := fun a ha => let ⟨o, e⟩ := X.there a ha; ⟨o, n.keep _ _ (X.notab a ha) e⟩
/-- a step of a statement: what the frame owns may turn -/
structure SNext (B : Base) (Ow : Addr → Prop) (F : Fz) (μ : Mus) (s : Shared) (F' : Fz) (μ' : Mus) (s' : Shared) : Prop where
  shape : ∃ h' tk, s' = { s with heap := h', toks := tk }
  ext : F.le F'
  st : St B F' s'.heap
  mu : ∃ ν, μ' = μ ++ ν
  keep : ∀ b o, b ∉ tabs → ¬ Ow b → b ∉ μ.flatten → s.heap.get? b = some o → s'.heap.get? b = some o
  new : ∀ a o, F' a = some o → F a = some o ∨ s.heap.get? a = none ∨ a ∈ μ.flatten
  newμ : ∀ a ∈ μ'.flatten, a ∈ μ.flatten ∨ s.heap.get? a = none
  there : ∀ b o, s.heap.get? b = some o → ∃ o', s'.heap.get? b = some o'
theorem Next.toS {B : Base} {Ow : Addr → Prop} {F F' : Fz} {μ : Mus} {s s' : Shared} (n : Next B F s F' s') : SNext B Ow F μ s F' μ s' :=
  ⟨n.shape, n.ext, n.st, ⟨[], (List.append_nil _).symm⟩, fun b o h1 _ _ e => n.keep b o h1 e, fun a o e => (n.new a o e).imp id .inl, fun a h => .inl h, fun b o e => n.there e⟩
theorem SNext.gone {B : Base} {Ow : Addr → Prop} {F F' : Fz} {μ μ' : Mus} {s s' : Shared} (n : SNext B Ow F μ s F' μ' s') {b : Addr} (e : s'.heap.get? b = none) : s.heap.get? b = none := by
  cases q : s.heap.get? b with
  | none => rfl
  | some o => obtain ⟨o', z⟩ := n.there b o q; rw [e] at z; cases z
theorem SNext.trans {B : Base} {Ow : Addr → Prop} {F F' F'' : Fz} {μ μ' μ'' : Mus} {s s' s'' : Shared} (a : SNext B Ow F μ s F' μ' s') (b : SNext B Ow F' μ' s' F'' μ'' s'') : SNext B Ow F μ s F'' μ'' s'' := by
  obtain ⟨h1, t1, rfl⟩ := a.shape
  obtain ⟨h2, t2, rfl⟩ := b.shape
  obtain ⟨ν, rfl⟩ := a.mu
  obtain ⟨ν', rfl⟩ := b.mu
  refine ⟨⟨h2, t2, rfl⟩, Fz.le_trans a.ext b.ext, b.st, ⟨ν ++ ν', List.append_assoc ..⟩, fun x o h1 h2 h3 e => ?_, fun x o e => ?_, fun x hx => ?_, fun x o e => ?_⟩
  · refine b.keep x o h1 h2 (fun hm => ?_) (a.keep x o h1 h2 h3 e)
    rcases a.newμ x hm with q | q
    · exact h3 q
    · rw [q] at e; cases e
  · rcases b.new x o e with e | e | e
    · exact a.new x o e
    · exact .inr (.inl (a.gone e))
    · rcases a.newμ x e with q | q
      · exact .inr (.inr q)
      · exact .inr (.inl q)
  · rcases b.newμ x hx with q | q
    · exact a.newμ x q
    · exact .inr (a.gone q)
  · obtain ⟨o1, e1⟩ := a.there x o e
    exact b.there x o1 e1
theorem SNext.refl {B : Base} {Ow : Addr → Prop} {F : Fz} {μ : Mus} {s : Shared} (S : St B F s.heap) : SNext B Ow F μ s F μ s := (Next.refl S).toS
noncomputable def DoS {α : Type} (B : Base) (Ow : Addr → Prop) (A : Around) (F : Fz) (μ : Mus) (s : Shared) (m : Sem α) (R : Fz → Mus → Shared → α → Prop) : Prop :=
  ∀ (Q : α → Shared → Prop) (E : Value → Shared → Prop), (∀ v s' F' μ', SNext B Ow F μ s F' μ' s' → R F' μ' s' v → Q v s') → wpAny (model prg B.w) A m Q E s
section
variable {B : Base} {Ow : Addr → Prop} {A : Around} {F : Fz} {μ : Mus} {s : Shared} {α β : Type}
theorem DoS.bind {m : Sem α} {k : α → Sem β} {R : Fz → Mus → Shared → α → Prop} {R' : Fz → Mus → Shared → β → Prop} (h : DoS B Ow A F μ s m R)
    (hk : ∀ v s' F' μ', SNext B Ow F μ s F' μ' s' → R F' μ' s' v → DoS B Ow A F' μ' s' (k v) R') : DoS B Ow A F μ s (m >>= k) R' :=
  fun Q E hQ => wpAny_bind (h _ E fun v s' F' μ' n r => hk v s' F' μ' n r Q E fun v' s'' F'' μ'' n' r' => hQ v' s'' F'' μ'' (n.trans n') r')
theorem DoS.bindE {m : Sem α} {k : α → Sem β} {R : Fz → Shared → α → Prop} {R' : Fz → Mus → Shared → β → Prop} (h : Do B A F s m R)
    (hk : ∀ v s' F', Next B F s F' s' → R F' s' v → DoS B Ow A F' μ s' (k v) R') : DoS B Ow A F μ s (m >>= k) R' :=
  fun Q E hQ => wpAny_bind (h _ E fun v s' F' n r => hk v s' F' n r Q E fun v' s'' F'' μ'' n' r' => hQ v' s'' F'' μ'' (n.toS.trans n') r')
theorem DoS.pure {v : α} {R : Fz → Mus → Shared → α → Prop} (S : St B F s.heap) (h : R F μ s v) : DoS B Ow A F μ s (Pure.pure v) R := fun _ _ hQ => wpAny_pure (hQ _ _ _ _ (.refl S) h)
theorem DoS.mono {m : Sem α} {R R' : Fz → Mus → Shared → α → Prop} (h : DoS B Ow A F μ s m R) (hr : ∀ F' μ' s' v, SNext B Ow F μ s F' μ' s' → R F' μ' s' v → R' F' μ' s' v) : DoS B Ow A F μ s m R' :=
  fun Q E hQ => h Q E fun v s' F' μ' n r => hQ v s' F' μ' n (hr _ _ _ _ n r)
theorem DoS.ofDo {m : Sem α} {R : Fz → Shared → α → Prop} {R' : Fz → Mus → Shared → α → Prop} (h : Do B A F s m R) (hr : ∀ F' s' v, Next B F s F' s' → R F' s' v → R' F' μ s' v) : DoS B Ow A F μ s m R' :=
  fun Q E hQ => h Q E fun v s' F' n r => hQ v s' F' μ n.toS (hr _ _ _ n r)
theorem DoS.eq {m m' : Sem α} {R : Fz → Mus → Shared → α → Prop} (e : m = m') (h : DoS B Ow A F μ s m' R) : DoS B Ow A F μ s m R := e ▸ h
end
/-- pure expressions and statements -/
noncomputable abbrev E := Cx → AH → Option V
noncomputable abbrev Et := Cx → AH → Option Bool
noncomputable abbrev El := Cx → AH → Option (List V)
inductive Fl where
  | next | brk | cont
  | ret (v : V)
noncomputable abbrev S := Cx → AH → Option (Fl × Cx × AH)
/-- a tree over a frame's environment does what f says -/
noncomputable def Runs {α β : Type} (B : Base) (n : Nat) (xs : Names) (gs : List Str) (run : Env → Sem α) (f : Cx → AH → Option β) (R : Fz → Shared → Shared → α → β → Prop) : Prop :=
  ∀ env A F μ Γ σ s p, AOk n A → St B F s.heap → Rd F μ xs gs env Γ s.heap → Mu F μ σ s.heap → f Γ σ = some p → Do B A F s (run env) (fun F' s' v => R F' s s' v p)
noncomputable abbrev Evals (B : Base) (n : Nat) (xs : Names) (gs : List Str) (run : Env → Sem Value) (f : E) : Prop := Runs B n xs gs run f fun F' _ _ v p => Rep F' v p
noncomputable abbrev Tests (B : Base) (n : Nat) (xs : Names) (gs : List Str) (run : Env → Sem Bool) (f : Et) : Prop := Runs B n xs gs run f fun _ _ _ v p => v = p
noncomputable abbrev Args (B : Base) (n : Nat) (xs : Names) (gs : List Str) (run : Env → Sem (List Value)) (f : El) : Prop := Runs B n xs gs run f fun F' _ _ vs ps => Reps F' vs ps
/-- a list made anew -/
noncomputable abbrev Fresh (B : Base) (n : Nat) (xs : Names) (gs : List Str) (run : Env → Sem Value) (f : El) : Prop := Runs B n xs gs run f fun F' s s' v ps =>
  ∃ a vs k, v = .ref a ∧ s.heap.get? a = none ∧ F' a = none ∧ s'.heap.get? a = some ⟨.type "list", none, .seq vs.toArray k, #[]⟩ ∧ Reps F' vs ps ∧ ps.length ≤ lim
/-- a list as it stands -/
noncomputable def Now (F : Fz) (h : Heap) (v : Value) (ps : List V) : Prop := ∃ a vs k, v = .ref a ∧ a ∉ tabs ∧ h.get? a = some ⟨.type "list", none, .seq vs.toArray k, #[]⟩ ∧ Reps F vs ps ∧ ps.length ≤ lim
noncomputable abbrev Looks (B : Base) (n : Nat) (xs : Names) (gs : List Str) (run : Env → Sem Value) (f : El) : Prop := Runs B n xs gs run f fun F' _ s' v ps => Now F' s'.heap v ps
noncomputable def FlRep (F : Fz) : Flow → Fl → Prop
  | .next, .next => True
  | .brk, .brk => True
  | .cont, .cont => True
  | .ret v, .ret p => Rep F v p
  | _, _ => False
noncomputable def Execs (B : Base) (n : Nat) (xs : Names) (gs : List Str) (run : Env → Sem Flow) (f : S) : Prop :=
  ∀ env A F μ Γ σ s r, AOk n A → St B F s.heap → Rd F μ xs gs env Γ s.heap → Mu F μ σ s.heap → f Γ σ = some r →
    DoS B (Own env xs) A F μ s (run env) (fun F' μ' s' v => FlRep F' v r.1 ∧ Rd F' μ' xs gs env r.2.1 s'.heap ∧ Mu F' μ' r.2.2 s'.heap)
theorem Now.next {B : Base} {F F' : Fz} {s s' : Shared} {v : Value} {ps : List V} (x : Now F s.heap v ps) (n : Next B F s F' s') : Now F' s'.heap v ps :=
  let ⟨a, vs, k, e, ht, hg, r, hl⟩ := x; ⟨a, vs, k, e, ht, n.keep _ _ ht hg, r.mono n.ext, hl⟩
theorem Runs.up {α β : Type} {B : Base} {n m : Nat} {xs : Names} {gs : List Str} {run : Env → Sem α} {f : Cx → AH → Option β} {R : Fz → Shared → Shared → α → β → Prop} (h : Runs B n xs gs run f R) (hm : n ≤ m) : Runs B m xs gs run f R :=
  fun env A F μ Γ σ s p hA => h env A F μ Γ σ s p (hA.mono hm)
end Mine
/-! part 2 -/
namespace Mine
open PySem PySem.Calls PyProof.Rows
section
variable {B : Base} {n : Nat} {xs : Names} {gs : List Str}
/-! names and constants -/
noncomputable def pv (i : Nat) : E := fun Γ _ => match Γ[i]? with | some (.val v) => some v | _ => none
theorem loadName_has {F : Fz} {μ : Mus} {env : Env} {Γ : Cx} {s : Shared} {A : Around} {i : Nat} {x : Str} {k : Kd} {p : Sl} {Q : Value → Shared → Prop} {E : Value → Shared → Prop} (R : Rd F μ xs gs env Γ s.heap)
    (hx : xs[i]? = some (x, k)) (hp : Γ[i]? = some p) (hd : p ≠ .undef) (h : ∀ v, SlRep F μ v p → Q v s) : wpAny (model prg B.w) A (loadName env x) Q E s := by
  have H := R.has i x k p hx hp hd
  have K := R.knd x k (List.mem_of_getElem? hx)
  have D := R.nodbg x k (List.mem_of_getElem? hx)
  by_cases hk : k = .loc
  · rw [if_pos hk] at H
    obtain ⟨m, v, hn, hm, r⟩ := H
    subst hk
    exact wpAny_loadName_local R.fn K hn hm (h v r)
  · rw [if_neg hk] at H
    obtain ⟨c, v, hc, hv, r⟩ := H
    have K' : env.kindOf x = some .cell ∨ env.kindOf x = some .free := by
      cases k with
      | loc => exact absurd rfl hk
      | own => exact .inl K.1
      | cap => exact K.1
    rcases K' with K' | K'
    · exact wpAny_loadName_cell R.fn K' hc hv (h v r)
    · exact wpAny_loadName_free R.fn K' hc hv (h v r) D.2
theorem E_name {i : Nat} {x : Str} {k : Kd} {pos : Pos} (hx : xs[i]? = some (x, k)) : Evals B n xs gs (fun env => eval (.Name x pos) env) (pv i) := by
  intro env A F μ Γ σ s p hA S R X hf Q E hQ
  unfold pv at hf
  split at hf
  · rename_i v hv
    cases hf
    exact wpAny_Name (loadName_has R hx hv (by simp) fun v r => hQ v s F (.refl S) r) (R.nodbg x k (List.mem_of_getElem? hx)).1
  · cases hf
/-- a name that holds a list that may still turn -/
noncomputable def pref (i : Nat) : El := fun Γ σ => match Γ[i]? with
  | some (.ref n) => match σ[n]? with
    | some (.list l) => some l
    | _ => none
  | _ => none
theorem N_ref {i : Nat} {x : Str} {k : Kd} {pos : Pos} (hx : xs[i]? = some (x, k)) : Looks B n xs gs (fun env => eval (.Name x pos) env) (pref i) := by
  intro env A F μ Γ σ s p hA S R X hf Q E hQ
  unfold pref at hf
  split at hf
  · rename_i j hv
    split at hf
    · rename_i l hl
      cases hf
      refine wpAny_Name (loadName_has R hx hv (by simp) fun v r => ?_) (R.nodbg x k (List.mem_of_getElem? hx)).1
      obtain ⟨a, t, rfl, e⟩ := r
      obtain ⟨a', vs, m, e1, e2, e3, r, hlim⟩ := X.at' j _ _ e hl
      cases e1
      exact hQ _ s F (.refl S) ⟨a, vs, m, rfl, X.notab a (mem_flatten_of e (.head _)), e3, r, hlim⟩
    · cases hf
  · cases hf
noncomputable def pk (v : V) : E := fun _ _ => some v
theorem E_int {i : Int} {k : Nat} {pos : Pos} : Evals B n xs gs (fun env => eval (.Constant (.int i) k pos) env) (pk (.int i)) := by
  intro env A F μ Γ σ s p hA S R X hf Q E hQ
  cases hf
  exact wpAny_Constant_int (hQ _ _ F (.toks S _) (.int i _))
theorem E_str {x : Str} {l : List Nat} {k : Nat} {pos : Pos} (hx : x = strOf l) (hl : okS l = true := by decide) : Evals B n xs gs (fun env => eval (.Constant (.str x) k pos) env) (pk (.str l)) := by
  intro env A F μ Γ σ s p hA S R X hf Q E hQ
  cases hf
  subst hx
  exact wpAny_Constant_str (hQ _ _ F (.toks S _) (.str l _ hl))
theorem E_bool {b : Bool} {k : Nat} {pos : Pos} : Evals B n xs gs (fun env => eval (.Constant (.bool b) k pos) env) (pk (.bool b)) := by
  intro env A F μ Γ σ s p hA S R X hf Q E hQ
  cases hf
  exact wpAny_Constant_bool (hQ _ _ F (.refl S) (.bool b))
theorem E_none {k : Nat} {pos : Pos} : Evals B n xs gs (fun env => eval (.Constant .none k pos) env) (pk .none) := by
  intro env A F μ Γ σ s p hA S R X hf Q E hQ
  cases hf
  exact wpAny_Constant_none (hQ _ _ F (.refl S) .none)
/-! freezing -/
theorem E_fresh {run : Env → Sem Value} {f : El} (h : Fresh B n xs gs run f) : Evals B n xs gs run (fun Γ σ => (f Γ σ).map V.list) := by
  intro env A F μ Γ σ s p hA S R X hf Q E hQ
  obtain ⟨l, e, rfl⟩ := Option.map_eq_some_iff.mp hf
  refine h env A F μ Γ σ s l hA S R X e Q E fun v s' F' n r => ?_
  obtain ⟨a, vs, k, rfl, h1, h2, h3, r, hl⟩ := r
  obtain ⟨h', tk, rfl⟩ := n.shape
  refine hQ _ _ (F'.put a _) ⟨⟨h', tk, rfl⟩, Fz.le_trans n.ext (Fz.le_put h2), n.st.put h3 h2 (S.notTab h1), n.keep, fun x o e => ?_⟩ (.list Fz.put_self (r.mono (Fz.le_put h2)) hl)
  rcases Fz.put_of e with ⟨rfl, _⟩ | e
  · exact .inr h1
  · exact n.new x o e
theorem N_fresh {run : Env → Sem Value} {f : El} (h : Fresh B n xs gs run f) : Looks B n xs gs run f := by
  intro env A F μ Γ σ s p hA S R X hf Q E hQ
  refine h env A F μ Γ σ s p hA S R X hf Q E fun v s' F' n r => hQ v s' F' n ?_
  obtain ⟨a, vs, k, rfl, h1, h2, h3, r, hl⟩ := r
  exact ⟨a, vs, k, rfl, S.notTab h1, h3, r, hl⟩
noncomputable def pl (f : E) : El := fun Γ σ => match f Γ σ with | some (.list l) => some l | _ => none
theorem now_of {F : Fz} {h : Heap} {v : Value} {l : List V} (S : St B F h) (r : Rep F v (.list l)) : Now F h v l := by
  cases r with
  | @list a _ _ _ e r hl => exact ⟨a, _, _, rfl, (fun hm => by have := (S.tab a hm).2; rw [e] at this; cases this), S.sub _ _ e, r, hl⟩
theorem N_val {run : Env → Sem Value} {f : E} (h : Evals B n xs gs run f) : Looks B n xs gs run (pl f) := by
  intro env A F μ Γ σ s p hA S R X hf Q E hQ
  unfold pl at hf
  split at hf
  · rename_i l e
    cases hf
    exact h env A F μ Γ σ s _ hA S R X e Q E fun v s' F' n r => hQ v s' F' n (now_of n.st r)
  · cases hf
/-! two operands -/
noncomputable def p2 (h : V → V → Option V) (f g : E) : E := fun Γ σ => (f Γ σ).bind fun a => (g Γ σ).bind fun b => h a b
/-- an operation on two values -/
noncomputable def Op2 (B : Base) (n : Nat) (op : Value → Value → Sem Value) (h : V → V → Option V) : Prop :=
  ∀ A F s a b p q r, AOk n A → St B F s.heap → Rep F a p → Rep F b q → h p q = some r → Do B A F s (op a b) (fun F' _ v => Rep F' v r)
theorem E_bin {l r : Expr} {op : Operator} {pos : Pos} {f g : E} {h : V → V → Option V} (ho : Op2 B n (binaryOp op) h) (hl : Evals B n xs gs (fun env => eval l env) f) (hr : Evals B n xs gs (fun env => eval r env) g) :
    Evals B n xs gs (fun env => eval (.BinOp l op r pos) env) (p2 h f g) := by
  intro env A F μ Γ σ s p hA S R X hf Q E hQ
  obtain ⟨a, ea, hf⟩ := Option.bind_eq_some_iff.mp hf
  obtain ⟨b, eb, hf⟩ := Option.bind_eq_some_iff.mp hf
  refine wpAny_BinOp (hl env A F μ Γ σ s a hA S R X ea _ E fun va s₁ F₁ n₁ ra => hr env A F₁ μ Γ σ s₁ b hA n₁.st (R.next n₁) (X.next n₁) eb _ E fun vb s₂ F₂ n₂ rb => ?_)
  exact ho A F₂ s₂ va vb a b p hA n₂.st (ra.mono n₂.ext) rb hf Q E fun v s₃ F₃ n₃ r₃ => hQ v s₃ F₃ ((n₁.trans n₂).trans n₃) r₃
/-- two lists make a new one -/
noncomputable def p2l (f g : El) (h : List V → List V → Option (List V)) : El := fun Γ σ => (f Γ σ).bind fun a => (g Γ σ).bind fun b => h a b
/-! one operand -/
noncomputable def p1 (h : V → Option V) (f : E) : E := fun Γ σ => (f Γ σ).bind h
noncomputable def Op1 (B : Base) (n : Nat) (op : Value → Sem Value) (h : V → Option V) : Prop :=
  ∀ A F s a p r, AOk n A → St B F s.heap → Rep F a p → h p = some r → Do B A F s (op a) (fun F' _ v => Rep F' v r)
theorem E_un {x : Expr} {op : UnaryOp} {pos : Pos} {f : E} {h : V → Option V} (ho : Op1 B n (unaryOp op) h) (hx : Evals B n xs gs (fun env => eval x env) f) : Evals B n xs gs (fun env => eval (.UnaryOp op x pos) env) (p1 h f) := by
  intro env A F μ Γ σ s p hA S R X hf Q E hQ
  obtain ⟨a, ea, hf⟩ := Option.bind_eq_some_iff.mp hf
  refine wpAny_UnaryOp (hx env A F μ Γ σ s a hA S R X ea _ E fun va s₁ F₁ n₁ ra => ?_)
  exact ho A F₁ s₁ va a p hA n₁.st ra hf Q E fun v s₃ F₃ n₃ r₃ => hQ v s₃ F₃ (n₁.trans n₃) r₃
/-! comparisons -/
theorem E_cmp {l r : Expr} {op : CmpOp} {pos : Pos} {f g : E} {h : V → V → Option V} (ho : Op2 B n (compareOp op) h) (hl : Evals B n xs gs (fun env => eval l env) f) (hr : Evals B n xs gs (fun env => eval r env) g)
    (hm : behindInMarks op r = false := by with_unfolding_all rfl) : Evals B n xs gs (fun env => eval (.Compare l [op] [r] pos) env) (p2 h f g) := by
  intro env A F μ Γ σ s p hA S R X hf Q E hQ
  obtain ⟨a, ea, hf⟩ := Option.bind_eq_some_iff.mp hf
  obtain ⟨b, eb, hf⟩ := Option.bind_eq_some_iff.mp hf
  refine wpAny_Compare1 (hl env A F μ Γ σ s a hA S R X ea _ E fun va s₁ F₁ n₁ ra => hr env A F₁ μ Γ σ s₁ b hA n₁.st (R.next n₁) (X.next n₁) eb _ E fun vb s₂ F₂ n₂ rb => ?_) hm
  exact ho A F₂ s₂ va vb a b p hA n₂.st (ra.mono n₂.ext) rb hf Q E fun v s₃ F₃ n₃ r₃ => hQ v s₃ F₃ ((n₁.trans n₂).trans n₃) r₃
/-- truth -/
noncomputable def truth : V → Option Bool
  | .none => some false
  | .bool b => some b
  | .int i => some (i != 0)
  | .str s => some (!s.isEmpty)
  | .list l => some (!l.isEmpty)
  | _ => none
theorem lim_fits {k : Nat} (h : k ≤ lim) : (k : Int) < 2 ^ 63 := by unfold lim at h; (first | lia | omega)
theorem len_strOf (x : List Nat) : (strOf x).length = x.length := by simp [strOf, Str.length]
theorem isList_of {h : Heap} {a : Addr} {vs : List Value} {k : Nat} (e : h.get? a = some ⟨.type "list", none, .seq vs.toArray k, #[]⟩) : h.IsList a vs.toArray := ⟨_, e, rfl, _, rfl⟩
theorem truthy_ok {A : Around} {F : Fz} {s : Shared} {v : Value} {p : V} {b : Bool} (hA : AOk n A) (S : St B F s.heap) (r : Rep F v p) (h : truth p = some b) : Do B A F s (truthy v) (fun _ _ c => c = b) := by
  intro Q E hQ
  cases r with
  | none => cases h; exact (fun _ _ _ => hQ false s F (.refl S) rfl)
  | bool c => cases h; exact wpAny_truthy_bool (hQ _ s F (.refl S) rfl)
  | int i t =>
    cases h
    exact PySem.P.truthy_int (hQ _ s F (.refl S) rfl)
  | str x t hx =>
    cases h
    refine PySem.P.truthy_str (by rw [len_strOf]; have := lim_fits (okS_iff.mp hx).1; (first | lia | omega)) (hQ _ _ F (.toks S _) ?_)
    rw [len_strOf]
    cases x <;> simp; try (first | lia | omega)
  | list e r hl =>
    cases h
    rename_i vs _ ps
    refine wpAny_truthy_list (isList_of (S.sub _ _ e)) (by rw [List.size_toArray, r.length]; exact lim_fits hl) (hQ _ _ F (.toks S _) ?_)
    cases r <;> simp
  | tup e r hl => cases h
  | ws e1 e2 e3 e4 e5 e6 r => cases h
/-! tests -/
theorem T_val {e : Expr} {f : E} (h : Evals B n xs gs (fun env => eval e env) f) (he : ∀ env whole, isTrue e env whole = (do let v ← whole; standAt e.pos; holding [v] (truthy v)) := by intro _ _; rfl) :
    Tests B n xs gs (fun env => isTrue e env (eval e env)) (fun Γ σ => (f Γ σ).bind truth) := by
  intro env A F μ Γ σ s p hA S R X hf Q E hQ
  obtain ⟨a, ea, hf⟩ := Option.bind_eq_some_iff.mp hf
  refine wpAny_isTrue_value (h env A F μ Γ σ s a hA S R X ea _ E fun v s₁ F₁ n₁ r => ?_) (he env _)
  exact truthy_ok hA n₁.st r hf Q E fun b s₂ F₂ n₂ e => hQ b s₂ F₂ (n₁.trans n₂) e
theorem T_not {x : Expr} {pos : Pos} {f : Et} (h : Tests B n xs gs (fun env => isTrue x env (eval x env)) f) :
    Tests B n xs gs (fun env => isTrue (.UnaryOp .Not x pos) env (eval (.UnaryOp .Not x pos) env)) (fun Γ σ => (f Γ σ).map not) := by
  intro env A F μ Γ σ s p hA S R X hf Q E hQ
  obtain ⟨a, ea, rfl⟩ := Option.map_eq_some_iff.mp hf
  exact wpAny_isTrue_Not (h env A F μ Γ σ s a hA S R X ea _ E fun v s₁ F₁ n₁ r => hQ _ s₁ F₁ n₁ (by rw [r]))
theorem T_cmp {l r : Expr} {op : CmpOp} {pos : Pos} {f g : E} {h : V → V → Option V} (ho : Op2 B n (compareOp op) h) (hl : Evals B n xs gs (fun env => eval l env) f) (hr : Evals B n xs gs (fun env => eval r env) g)
    (hm : behindInMarks op r = false := by with_unfolding_all rfl) : Tests B n xs gs (fun env => isTrue (.Compare l [op] [r] pos) env (eval (.Compare l [op] [r] pos) env)) (fun Γ σ => (p2 h f g Γ σ).bind truth) := by
  intro env A F μ Γ σ s p hA S R X hf Q E hQ
  obtain ⟨c, hc, hf⟩ := Option.bind_eq_some_iff.mp hf
  obtain ⟨a, ea, hc⟩ := Option.bind_eq_some_iff.mp hc
  obtain ⟨b, eb, hc⟩ := Option.bind_eq_some_iff.mp hc
  refine wpAny_isTrue_Compare1 (hl env A F μ Γ σ s a hA S R X ea _ E fun va s₁ F₁ n₁ ra => hr env A F₁ μ Γ σ s₁ b hA n₁.st (R.next n₁) (X.next n₁) eb _ E fun vb s₂ F₂ n₂ rb => ?_) hm
  refine ho A F₂ s₂ va vb a b c hA n₂.st (ra.mono n₂.ext) rb hc _ E fun v s₃ F₃ n₃ r₃ => ?_
  exact truthy_ok hA n₃.st r₃ hf Q E fun b s₄ F₄ n₄ e => hQ b s₄ F₄ (((n₁.trans n₂).trans n₃).trans n₄) e
noncomputable def tand (f g : Et) : Et := fun Γ σ => (f Γ σ).bind fun b => if b then g Γ σ else some false
noncomputable def tor (f g : Et) : Et := fun Γ σ => (f Γ σ).bind fun b => if b then some true else g Γ σ
noncomputable abbrev Alls (B : Base) (n : Nat) (xs : Names) (gs : List Str) (op : BoolOp) (es : List Expr) (f : Et) : Prop := Tests B n xs gs (fun env => allTrue op es env) f
theorem T_boolop {op : BoolOp} {values : List Expr} {pos : Pos} {f : Et} (h : Alls B n xs gs op values f) : Tests B n xs gs (fun env => isTrue (.BoolOp op values pos) env (eval (.BoolOp op values pos) env)) f := by
  intro env A F μ Γ σ s p hA S R X hf Q E hQ
  exact wpAny_isTrue_BoolOp (h env A F μ Γ σ s p hA S R X hf Q E hQ)
theorem T_and_nil : Alls B n xs gs .And [] (fun _ _ => some true) := by
  intro env A F μ Γ σ s p hA S R X hf Q E hQ
  exact wpAny_allTrue_And_nil (hQ _ s F (.refl S) (by cases hf; rfl))
theorem T_or_nil : Alls B n xs gs .Or [] (fun _ _ => some false) := by
  intro env A F μ Γ σ s p hA S R X hf Q E hQ
  exact wpAny_allTrue_Or_nil (hQ _ s F (.refl S) (by cases hf; rfl))
theorem T_and_cons {x : Expr} {rest : List Expr} {f g : Et} (h : Tests B n xs gs (fun env => isTrue x env (eval x env)) f) (hr : Alls B n xs gs .And rest g) : Alls B n xs gs .And (x :: rest) (tand f g) := by
  intro env A F μ Γ σ s p hA S R X hf Q E hQ
  obtain ⟨a, ea, hf⟩ := Option.bind_eq_some_iff.mp hf
  refine wpAny_allTrue_And_cons (h env A F μ Γ σ s a hA S R X ea _ E fun b s₁ F₁ n₁ r => ?_)
  subst r
  cases b with
  | false => cases hf; exact hQ _ s₁ F₁ n₁ rfl
  | true => exact hr env A F₁ μ Γ σ s₁ p hA n₁.st (R.next n₁) (X.next n₁) hf Q E fun c s₂ F₂ n₂ e => hQ c s₂ F₂ (n₁.trans n₂) e
theorem T_or_cons {x : Expr} {rest : List Expr} {f g : Et} (h : Tests B n xs gs (fun env => isTrue x env (eval x env)) f) (hr : Alls B n xs gs .Or rest g) : Alls B n xs gs .Or (x :: rest) (tor f g) := by
  intro env A F μ Γ σ s p hA S R X hf Q E hQ
  obtain ⟨a, ea, hf⟩ := Option.bind_eq_some_iff.mp hf
  refine wpAny_allTrue_Or_cons (h env A F μ Γ σ s a hA S R X ea _ E fun b s₁ F₁ n₁ r => ?_)
  subst r
  cases b with
  | true => cases hf; exact hQ _ s₁ F₁ n₁ rfl
  | false => exact hr env A F₁ μ Γ σ s₁ p hA n₁.st (R.next n₁) (X.next n₁) hf Q E fun c s₂ F₂ n₂ e => hQ c s₂ F₂ (n₁.trans n₂) e
noncomputable def por (f g : E) : E := fun Γ σ => (f Γ σ).bind fun a => (truth a).bind fun t => if t then some a else g Γ σ
theorem E_or {x y : Expr} {pos : Pos} {f g : E} (hx : Evals B n xs gs (fun env => eval x env) f) (hy : Evals B n xs gs (fun env => eval y env) g) : Evals B n xs gs (fun env => eval (.BoolOp .Or [x, y] pos) env) (por f g) := by
  intro env A F μ Γ σ s p hA S R X hf Q E hQ
  obtain ⟨a, ea, hf⟩ := Option.bind_eq_some_iff.mp hf
  obtain ⟨t, et, hf⟩ := Option.bind_eq_some_iff.mp hf
  refine wpAny_Or2 (hx env A F μ Γ σ s a hA S R X ea _ E fun v s₁ F₁ n₁ r => ?_)
  refine truthy_ok hA n₁.st r et _ E fun b s₂ F₂ n₂ e => ?_
  subst e
  cases b with
  | true => cases hf; exact hQ v s₂ F₂ (n₁.trans n₂) (r.mono n₂.ext)
  | false => exact hy env A F₂ μ Γ σ s₂ p hA n₂.st ((R.next n₁).next n₂) ((X.next n₁).next n₂) hf Q E fun v s₃ F₃ n₃ r₃ => hQ v s₃ F₃ ((n₁.trans n₂).trans n₃) r₃
noncomputable def pite (t : Et) (f g : E) : E := fun Γ σ => (t Γ σ).bind fun b => if b then f Γ σ else g Γ σ
theorem E_ite {test body orelse : Expr} {pos : Pos} {t : Et} {f g : E} (ht : Tests B n xs gs (fun env => isTrue test env (eval test env)) t) (hx : Evals B n xs gs (fun env => eval body env) f) (hy : Evals B n xs gs (fun env => eval orelse env) g) :
    Evals B n xs gs (fun env => eval (.IfExp test body orelse pos) env) (pite t f g) := by
  intro env A F μ Γ σ s p hA S R X hf Q E hQ
  obtain ⟨a, ea, hf⟩ := Option.bind_eq_some_iff.mp hf
  refine wpAny_IfExp (ht env A F μ Γ σ s a hA S R X ea _ E fun b s₁ F₁ n₁ r => ?_)
  subst r
  cases b with
  | true => exact hx env A F₁ μ Γ σ s₁ p hA n₁.st (R.next n₁) (X.next n₁) hf Q E fun c s₂ F₂ n₂ e => hQ c s₂ F₂ (n₁.trans n₂) e
  | false => exact hy env A F₁ μ Γ σ s₁ p hA n₁.st (R.next n₁) (X.next n₁) hf Q E fun c s₂ F₂ n₂ e => hQ c s₂ F₂ (n₁.trans n₂) e
/-! several values -/
structure ArgsR (B : Base) (n : Nat) (xs : Names) (gs : List Str) (es : List Expr) (f : El) : Prop where
  plain : ∀ env pos, (backTo pos (starEach es env)).any (·.1) = false
  runs : ∀ pos, Args B n xs gs (fun env => spliced (backTo pos (starEach es env))) f
  pall : ∀ env pos, (backTo pos (starEach es env)).all (fun x => !x.1) = true
theorem A_nil : ArgsR B n xs gs [] (fun _ _ => some []) := ⟨fun _ _ => rfl, fun pos env A F μ Γ σ s p hA S R X hf Q E hQ => wpAny_items_nil (hQ _ s F (.refl S) (by cases hf; exact .nil)), fun _ _ => rfl⟩
noncomputable def pcons (f : E) (g : El) : El := fun Γ σ => (f Γ σ).bind fun a => (g Γ σ).map (a :: ·)
theorem A_cons {e : Expr} {rest : List Expr} {f : E} {g : El} (h : Evals B n xs gs (fun env => eval e env) f) (hr : ArgsR B n xs gs rest g) (he : ∀ env, starEach (e :: rest) env = (false, eval e env) :: starEach rest env := by intro _; rfl) :
    ArgsR B n xs gs (e :: rest) (pcons f g) where
  plain := fun env pos => by rw [he]; exact hr.plain env pos
  pall := fun env pos => by rw [he]; exact hr.pall env pos
  runs := fun pos env A F μ Γ σ s p hA S R X hf Q E hQ => by
    obtain ⟨a, ea, hf⟩ := Option.bind_eq_some_iff.mp hf
    obtain ⟨b, eb, rfl⟩ := Option.map_eq_some_iff.mp hf
    refine wpAny_items_cons (h env A F μ Γ σ s a hA S R X ea _ E fun v s₁ F₁ n₁ r => ?_) (he env)
    exact hr.runs pos env A F₁ μ Γ σ s₁ b hA n₁.st (R.next n₁) (X.next n₁) eb _ E fun vs s₂ F₂ n₂ r₂ => hQ _ s₂ F₂ (n₁.trans n₂) (.cons (r.mono n₂.ext) r₂)
theorem evalArgs_any {M : Model} {A : Around} {E : Value → Shared → Prop} {s : Shared} {f : Value} {args : List (Bool × Sem Value)} {Q : PySem.Args → Shared → Prop} (hp : args.any (·.1) = false)
    (h : wpAny M A (spliced args) (fun vs s' => Q ⟨vs, []⟩ s') E s) : wpAny M A (evalArgs f true args []) Q E s := by
  match args, hp, h with
  | [], _, h =>
    unfold evalArgs
    show wpAny M A (spliced [] >>= _) Q E s
    refine wpAny_bind (wpAny_mono h (fun vs s' h' => ?_) fun _ _ x => x)
    refine wpAny_holding ?_
    exact wpAny_bind (wpAny_pure (wpAny_bind (wpAny_pure (wpAny_pure h'))))
  | (true, _) :: _, hp, _ => cases hp
  | (false, x) :: rest, _, h => exact evalArgs_plain h
/-! calls -/
/-- what keeps the callee is found without a turn -/
noncomputable def Keep (B : Base) (fv : Value) : Prop := ∀ (A : Around) (F : Fz) (s : Shared) (Q : Keeper → Shared → Prop) (E : Value → Shared → Prop), St B F s.heap → (∀ k, Q k s) → wpAny (model prg B.w) A (keeperOf fv) Q E s
theorem Keep.builtin {id : String} : Keep B (.builtin id) := fun A F s Q E S h => wpAny_pure (h _)
theorem Keep.type {id : String} : Keep B (.type id) := fun A F s Q E S h => wpAny_pure (h _)
theorem Keep.func {a : Addr} {o : Obj} {fd : FuncData} (e : B.h₁.get? a = some o) (hd : o.data = .func fd) : Keep B (.ref a) := fun A F s Q E S h => by
  unfold keeperOf
  refine wpAny_bind (wpAny_load (S.sub _ _ (S.base _ _ e)) ?_)
  rw [hd]
  exact wpAny_pure (h _)
theorem callWith_any {A : Around} {s : Shared} {pos : Pos} {fv : Value} {first : List Value} {args : List (Bool × Sem Value)} {Q : Value → Shared → Prop} {E : Value → Shared → Prop} (hp : args.any (·.1) = false)
    (h : wpAny (model prg B.w) A (spliced args) (fun vs s₁ => wpAny (model prg B.w) A (keeperOf fv) (fun k s₂ => s₂ = s₁ ∧ wpAny (model prg B.w) A (call fv (first ++ vs) []) Q E s₁) E s₁) E s) :
    wpAny (model prg B.w) A (callWith pos fv first args []) Q E s := by
  unfold callWith
  refine wpAny_bind (wpAny_holding (evalArgs_any hp (wpAny_mono h (fun vs s₁ h₁ => wpAny_bind (wpAny_standAt ?_)) fun _ _ x => x)))
  have tail : ∀ {t : Sem Value} {s₁ : Shared}, wpAny (model prg B.w) A t Q E s₁ → wpAny (model prg B.w) A (t >>= fun r => holding [r] point >>= fun _ => pure r) Q E s₁ :=
    fun ht => wpAny_bind (wpAny_mono ht (fun r s₂ hr => wpAny_bind (wpAny_holding (wpAny_point (wpAny_pure hr)))) fun _ _ x => x)
  simp only [hp, List.any_nil, Bool.or_false]
  refine wpAny_bind (m := keeperOf fv) (wpAny_mono h₁ (fun k s₂ h₂ => ?_) fun _ _ x => x)
  obtain ⟨rfl, h₂⟩ := h₂
  cases k with
  | frame =>
    dsimp only
    refine wpAny_ite ?_
    split
    · exact tail h₂
    · exact tail (by unfold callMarked; exact wpAny_keep h₂)
  | boundFrame =>
    dsimp only
    refine wpAny_ite ?_
    split
    · exact tail h₂
    · exact tail (by unfold callMarked; exact wpAny_keep h₂)
  | machine => exact tail h₂
  | caller =>
    refine tail ?_
    intro Γ p hΓ
    rw [Sem.wp_operate]
    exact h₂ Γ p hΓ
/-- a function does what f says -/
noncomputable def FnOk (B : Base) (n : Nat) (fv : Value) (f : List V → Option V) : Prop :=
  ∀ A F s vals ps p, AOk n A → St B F s.heap → Reps F vals ps → f ps = some p → Do B A F s (call fv vals []) (fun F' _ v => Rep F' v p)
/-- a global name's value -/
noncomputable def Glob (B : Base) (x : Str) (fv : Value) : Prop :=
  ∀ (A : Around) (F : Fz) (env : Env) (s : Shared) (pos : Pos) (Q : Value → Shared → Prop) (E : Value → Shared → Prop), St B F s.heap → env.globals = mainGlobals → env.builtins = builtinsNs → env.scope.kind = .function → env.kindOf x = some .globalImplicit →
    Q fv s → wpAny (model prg B.w) A (eval (.Name x pos) env) Q E s
theorem FnOk.up {fv : Value} {f : List V → Option V} {m : Nat} (h : FnOk B m fv f) (hm : m ≤ n) : FnOk B n fv f := fun A F s vals ps p hA => h A F s vals ps p (hA.mono hm)
noncomputable def pcall (f : List V → Option V) (fs : El) : E := fun Γ σ => (fs Γ σ).bind f
theorem E_call {x : Str} {p pos : Pos} {args : List Expr} {fv : Value} {f : List V → Option V} {fs : El} (hx : x ∈ gs) (hg : Glob B x fv) (hk : Keep B fv) (hf : FnOk B n fv f) (ha : ArgsR B n xs gs args fs) :
    Evals B n xs gs (fun env => eval (.Call (.Name x p) args [] pos) env) (pcall f fs) := by
  intro env A F μ Γ σ s r hA S R X hr Q E hQ
  obtain ⟨ps, ea, hr⟩ := Option.bind_eq_some_iff.mp hr
  show wpAny (model prg B.w) A (do callWith pos (← eval (.Name x p) env) [] (backTo pos (starEach args env)) (backToKw pos (keywordEach [] env))) Q E s
  refine wpAny_bind (hg A F env s p _ E S R.glob R.bui R.fn (R.gl x hx) ?_)
  refine callWith_any (ha.plain env pos) ?_
  refine ha.runs pos env A F μ Γ σ s ps hA S R X ea _ E fun vs s₁ F₁ n₁ r₁ => ?_
  refine hk A F₁ s₁ _ E n₁.st fun k => ⟨rfl, ?_⟩
  exact hf A F₁ s₁ vs ps r hA n₁.st r₁ hr Q E fun v s₂ F₂ n₂ r₂ => hQ v s₂ F₂ (n₁.trans n₂) r₂
noncomputable def tyOf : V → String
  | .none => "NoneType"
  | .bool _ => "bool"
  | .int _ => "int"
  | .str _ => "str"
  | .list _ => "list"
  | .tup _ => "tuple"
  | .ws _ => "Whitespace"
theorem typeIs_of {F : Fz} {s : Shared} {v : Value} {p : V} (S : St B F s.heap) (r : Rep F v p) (hp : ∀ q, p ≠ .ws q) : s.TypeIs v (tyOf p) := by
  cases r with
  | none => rfl
  | bool b => rfl
  | int i t => rfl
  | str x t hx => rfl
  | list e r hl => exact ⟨_, S.sub _ _ e, rfl⟩
  | tup e r hl => exact ⟨_, S.sub _ _ e, rfl⟩
  | ws e1 e2 e3 e4 e5 e6 r => exact absurd rfl (hp _)
theorem noDict_of {F : Fz} {s : Shared} {v : Value} {p : V} (S : St B F s.heap) (r : Rep F v p) (hp : ∀ q, p ≠ .ws q) : ∀ a, v = .ref a → ∃ ob, s.heap.get? a = some ob ∧ ob.dict = none := by
  cases r with
  | none => intro a e; cases e
  | bool b => intro a e; cases e
  | int i t => intro a e; cases e
  | str x t hx => intro a e; cases e
  | list e r hl => intro a e'; cases e'; exact ⟨_, S.sub _ _ e, rfl⟩
  | tup e r hl => intro a e'; cases e'; exact ⟨_, S.sub _ _ e, rfl⟩
  | ws e1 e2 e3 e4 e5 e6 r => exact absurd rfl (hp _)
/-- a built-in method does what f says -/
structure MethOk (B : Base) (n : Nat) (T id : String) (f : V → List V → Option V) : Prop where
  ty : ∀ p ps r, f p ps = some r → tyOf p = T ∧ ∀ q, p ≠ .ws q
  does : ∀ A F s a vals p ps r, AOk n A → St B F s.heap → Rep F a p → Reps F vals ps → f p ps = some r → Do B A F s (call (.builtin id) (a :: vals) []) (fun F' _ v => Rep F' v r)
noncomputable def pmeth (h : V → List V → Option V) (f : E) (fs : El) : E := fun Γ σ => (f Γ σ).bind fun a => (fs Γ σ).bind fun as => h a as
theorem E_meth {o : Expr} {name : Str} {apos pos : Pos} {args : List Expr} {T id : String} {h : V → List V → Option V} {f : E} {fs : El} (pa : PlainAttrs T) (slot : Slot T name id) (hty : typeOf (.builtin id) = pure (.type "method_descriptor"))
    (hm : MethOk B n T id h) (ho : Evals B n xs gs (fun env => eval o env) f) (ha : ArgsR B n xs gs args fs)
    (hfew : decide (args.length + ([] : List Keyword).length + (if ([] : List Keyword).isEmpty then 0 else 1) < 30) = true := by rfl) (hline : (apos.endLine == pos.line) = true := by rfl)
    (hbase : ∀ env, attributeBase o name env (eval o env) = eval o env := by intro _; rfl) :
    Evals B n xs gs (fun env => eval (.Call (.Attribute o name apos) args [] pos) env) (pmeth h f fs) := by
  intro env A F μ Γ σ s r hA S R X hr Q E hQ
  obtain ⟨p, ep, hr⟩ := Option.bind_eq_some_iff.mp hr
  obtain ⟨ps, ea, hr⟩ := Option.bind_eq_some_iff.mp hr
  refine wpAny_Call_method (hbase env) (by rw [ha.pall, hfew]; rfl) hline pa slot hty (ho env A F μ Γ σ s p hA S R X ep _ E fun ov s₁ F₁ n₁ r₁ => ?_)
  obtain ⟨h1, h2⟩ := hm.ty _ _ _ hr
  refine ⟨h1 ▸ typeIs_of n₁.st r₁ h2, noDict_of n₁.st r₁ h2, ?_⟩
  refine callWith_any (ha.plain env pos) ?_
  refine ha.runs pos env A F₁ μ Γ σ s₁ ps hA n₁.st (R.next n₁) (X.next n₁) ea _ E fun vs s₂ F₂ n₂ r₂ => ?_
  refine Keep.builtin A F₂ s₂ _ E n₂.st fun k => ⟨rfl, ?_⟩
  exact hm.does A F₂ s₂ ov vs p ps r hA n₂.st (r₁.mono n₂.ext) r₂ hr Q E fun v s₃ F₃ n₃ r₃ => hQ v s₃ F₃ ((n₁.trans n₂).trans n₃) r₃
end
end Mine
/-! part 3 -/
namespace Mine
open PySem PySem.Calls PyProof.Rows
theorem strOf_append (a b : List Nat) : strOf a ++ strOf b = strOf (a ++ b) := by
  show Str.append _ _ = _
  simp [Str.append, strOf]
theorem strOf_inj {a b : List Nat} (h : strOf a = strOf b) : a = b := by
  have : a.toArray = b.toArray := congrArg Str.cps h
  simpa using this
theorem strOf_cps (a : List Nat) : (strOf a).cps.toList = a := by simp [strOf]
theorem strOf_surj (x : Str) : x = strOf x.cps.toList := by cases x; simp [strOf]
theorem lim_size {k : Nat} (h : k ≤ lim) : k ≤ sizeLine := by
  have : sizeLine = 16777216 := by decide
  unfold lim at h; (first | lia | omega)
noncomputable def small (i : Int) : Bool := decide (i.natAbs < 2 ^ 1000)
theorem small_log2 {i : Int} (h : small i = true) : i.natAbs.log2 < 1000 := by
  have h := of_decide_eq_true h
  by_cases h0 : i.natAbs = 0
  · rw [h0]; decide
  · exact (Nat.log2_lt h0).mpr h
theorem small_bits {i : Int} (h : small i = true) : Builtin.Int.intBits i ≤ 1000 := by
  have := small_log2 h
  unfold Builtin.Int.intBits
  split <;> (first | lia | omega)
section
variable {B : Base} {n : Nat}
noncomputable def addV : V → V → Option V
  | .int a, .int b => some (.int (a + b))
  | .str a, .str b => if a.length + b.length ≤ lim then some (.str (a ++ b)) else none
  | _, _ => none
theorem add_ok : Op2 B n (binaryOp .Add) addV := by
  intro A F s a b p q r hA S ra rb h Q E hQ
  unfold addV at h
  split at h
  · obtain ⟨t, rfl⟩ := rep_int ra; obtain ⟨u, rfl⟩ := rep_int rb; cases h; exact PySem.P.add_int (hQ _ _ F (.toks S _) (.int _ _))
  · rename_i x y
    obtain ⟨t, rfl, hx⟩ := rep_str ra; obtain ⟨u, rfl, hy⟩ := rep_str rb
    split at h
    · rename_i hl
      cases h
      refine PySem.P.add_str ?_
      split
      · rename_i e
        have : x = [] := by rw [len_strOf] at e; exact List.length_eq_zero_iff.mp (by simpa using e)
        subst this
        exact hQ _ _ F (.refl S) (.str y u hy)
      · split
        · rename_i e
          have : y = [] := by rw [len_strOf] at e; exact List.length_eq_zero_iff.mp (by simpa using e)
          subst this
          exact hQ _ _ F (.refl S) (by rw [List.append_nil]; exact .str x t hx)
        · have e : okS (x ++ y) = true := by
            have h1 := (okS_iff.mp hx).2
            have h2 := (okS_iff.mp hy).2
            refine okS_iff.mpr ⟨by rw [List.length_append]; exact hl, fun c hc => (List.mem_append.mp hc).elim (h1 c) (h2 c)⟩
          refine ⟨by rw [strOf_append, len_strOf]; exact lim_size (okS_iff.mp e).1, hQ _ _ F (.toks S _) ?_⟩
          rw [strOf_append]
          exact .str _ _ e
    · cases h
  · cases h
noncomputable def int2 (f : Int → Int → Option V) : V → V → Option V
  | .int a, .int b => f a b
  | _, _ => none
theorem int2_some {f : Int → Int → Option V} {a b r : V} (h : int2 f a b = some r) : ∃ i j, a = .int i ∧ b = .int j ∧ f i j = some r := by
  unfold int2 at h
  split at h
  · exact ⟨_, _, rfl, rfl, h⟩
  · cases h
theorem int2_ok {op : Value → Value → Sem Value} {f : Int → Int → Option V}
    (h : ∀ A F s a b t u r, AOk n A → St B F s.heap → f a b = some r → Do B A F s (op (.int a t) (.int b u)) (fun F' _ v => Rep F' v r)) : Op2 B n op (int2 f) := by
  intro A F s a b p q r hA S ra rb e
  obtain ⟨i, j, rfl, rfl, e'⟩ := int2_some e
  obtain ⟨t, rfl⟩ := rep_int ra; obtain ⟨u, rfl⟩ := rep_int rb
  exact h _ _ _ _ _ _ _ _ hA S e'
theorem sub_ok : Op2 B n (binaryOp .Sub) (int2 fun a b => some (.int (a - b))) := int2_ok fun A F s a b t u r hA S e Q E hQ => by
  cases e; exact PySem.P.sub_int (hQ _ _ F (.toks S _) (.int _ _))
theorem fdiv_ok : Op2 B n (binaryOp .FloorDiv) (int2 fun a b => if b ≠ 0 ∧ small b = true then some (.int (a.fdiv b)) else none) := int2_ok fun A F s a b t u r hA S e Q E hQ => by
  split at e
  · rename_i h
    cases e; exact floordiv_int h.1 (hQ _ _ F (.toks S _) (.int _ _)) (.inl (PyProof.noPylong_of_log2 (by have := small_log2 h.2; (first | lia | omega))))
  · cases e
theorem mod_ok : Op2 B n (binaryOp .Mod) (int2 fun a b => if b ≠ 0 then some (.int (a.fmod b)) else none) := int2_ok fun A F s a b t u r hA S e Q E hQ => by
  split at e
  · rename_i h
    cases e; exact mod_int' h (hQ _ _ F (.toks S _) (.int _ _))
  · cases e
theorem pow_ok : Op2 B n (binaryOp .Pow) (int2 fun a b => if 0 ≤ b ∧ b ≤ 1000 ∧ small a = true then some (.int (a ^ b.toNat)) else none) := int2_ok fun A F s a b t u r hA S e Q E hQ => by
  split at e
  · rename_i h
    cases e
    refine pow_int h.1 ?_ (hQ _ _ F (.toks S _) (.int _ _))
    have h1 := small_bits h.2.2
    have h2 : (Builtin.Int.intBits a : Int) * b ≤ 1000 * 1000 := Int.mul_le_mul (by (first | lia | omega)) h.2.1 h.1 (by (first | lia | omega))
    (first | lia | omega)
  · cases e
theorem shl_ok : Op2 B n (binaryOp .LShift) (int2 fun a b => if 0 ≤ b ∧ b ≤ 1000 ∧ small a = true then some (.int (a * 2 ^ b.toNat)) else none) := int2_ok fun A F s a b t u r hA S e Q E hQ => by
  split at e
  · rename_i h
    cases e
    refine lshift_int h.1 ?_ (hQ _ _ F (.toks S _) (.int _ _))
    have h1 := small_bits h.2.2
    have h2 := h.2.1
    (first | lia | omega)
  · cases e
theorem shr_ok : Op2 B n (binaryOp .RShift) (int2 fun a b => if 0 ≤ b then some (.int (a.fdiv (2 ^ b.toNat))) else none) := int2_ok fun A F s a b t u r hA S e Q E hQ => by
  split at e
  · rename_i h
    cases e
    exact rshift_int h (hQ _ _ F (.toks S _) (.int _ _))
  · cases e
theorem xor_ok : Op2 B n (binaryOp .BitXor) (int2 fun a b => some (.int (Builtin.bitXor a b))) := int2_ok fun A F s a b t u r hA S e Q E hQ => by
  cases e
  exact xor_int (hQ _ _ F (.toks S _) (.int _ _))
/-- products: of ints; of a text and an int -/
noncomputable def mulV : V → V → Option V
  | .int a, .int b => if small a = true ∧ small b = true then some (.int (a * b)) else none
  | .str a, .int b => if a.length * b.toNat ≤ lim ∧ -(2 ^ 62) ≤ b ∧ b ≤ 2 ^ 20 then some (.str (List.replicate b.toNat a).flatten) else none
  | _, _ => none
theorem foldl_cps (x : List Nat) : ∀ (k : Nat) (acc : Array Nat), (List.replicate k x.toArray).foldl (· ++ ·) acc = acc ++ ((List.replicate k x).flatten).toArray
  | 0, acc => by simp
  | k + 1, acc => by simp [List.replicate_succ, foldl_cps x k, Array.append_assoc]
theorem mul_ok : Op2 B n (binaryOp .Mult) mulV := by
  intro A F s a b p q r hA S ra rb h Q E hQ
  unfold mulV at h
  split at h
  · obtain ⟨t, rfl⟩ := rep_int ra; obtain ⟨u, rfl⟩ := rep_int rb
    split at h
    · rename_i hs
      cases h
      refine PySem.P.mul_int (hQ _ _ F (.toks S _) (.int _ _)) (IntMulOk.of_bits ?_ ?_)
      · have := small_bits hs.1; (first | lia | omega)
      · have := small_bits hs.2; (first | lia | omega)
    · cases h
  · rename_i x b
    obtain ⟨t, rfl, hx⟩ := rep_str ra; obtain ⟨u, rfl⟩ := rep_int rb
    split at h
    · rename_i hs
      cases h
      obtain ⟨h1, h2, h3⟩ := hs
      refine PySem.P.mul_str ?_ (fun h4 h5 => ?_) (fun h4 h5 => ?_) ?_
      · rw [decide_eq_false (by (first | lia | omega)), decide_eq_false (by (first | lia | omega))]; rfl
      · rw [len_strOf]
        have hb : (0 : Int) < b := by (first | lia | omega)
        intro hgt
        have hx' : (x.length : Int) ≤ 1048576 := by have := (okS_iff.mp hx).1; unfold lim at this; (first | lia | omega)
        have : (2 ^ 63 - 1) / b ≥ (2 ^ 63 - 1) / (2 ^ 20) := by
          apply Int.le_ediv_of_mul_le hb
          calc (2 ^ 63 - 1 : Int) / 2 ^ 20 * b ≤ (2 ^ 63 - 1) / 2 ^ 20 * 2 ^ 20 := Int.mul_le_mul_of_nonneg_left h3 (by decide)
            _ ≤ 2 ^ 63 - 1 := by decide
        have h9 : ((2 ^ 63 - 1 : Int)) / 2 ^ 20 = 8796093022207 := by decide
        (first | lia | omega)
      · rw [len_strOf]
        unfold Builtin.Str.tooLong
        exact decide_eq_false (Nat.not_lt.mpr (lim_size h1))
      · split
        · rename_i hb
          have : b.toNat = 0 := by (first | lia | omega)
          refine ⟨by decide, hQ _ _ F (.toks S _) ?_⟩
          rw [this]
          exact .str [] _ (by decide)
        · split
          · rename_i hb e
            refine hQ _ _ F (.refl S) ?_
            rcases Bool.or_eq_true_iff.mp e with e | e
            · have : b = 1 := by simpa using e
              subst this
              simpa using Rep.str x t hx
            · have : x = [] := by rw [len_strOf] at e; exact List.length_eq_zero_iff.mp (by simpa using e)
              subst this
              simpa using Rep.str (F := F) [] t hx
          · have e : (⟨(List.replicate b.toNat (strOf x).cps).foldl (· ++ ·) #[]⟩ : Str) = strOf (List.replicate b.toNat x).flatten := by
              unfold strOf; simp only; rw [foldl_cps]; simp
            have e2 : okS (List.replicate b.toNat x).flatten = true := by
              refine okS_iff.mpr ⟨by simpa [List.length_flatten, Nat.mul_comm] using h1, fun c hc => ?_⟩
              obtain ⟨l, h8, h9⟩ := List.mem_flatten.mp hc
              rw [(List.mem_replicate.mp h8).2] at h9
              exact (okS_iff.mp hx).2 c h9
            rw [e]
            exact ⟨by rw [len_strOf]; exact lim_size (okS_iff.mp e2).1, hQ _ _ F (.toks S _) (.str _ _ e2)⟩
    · cases h
  · cases h
noncomputable def int1 (f : Int → Option V) : V → Option V
  | .int a => f a
  | _ => none
theorem int1_some {f : Int → Option V} {a r : V} (h : int1 f a = some r) : ∃ i, a = .int i ∧ f i = some r := by
  unfold int1 at h
  split at h
  · exact ⟨_, rfl, h⟩
  · cases h
theorem neg_ok : Op1 B n (unaryOp .USub) (int1 fun a => some (.int (-a))) := by
  intro A F s a p r hA S ra h Q E hQ
  obtain ⟨i, rfl, h'⟩ := int1_some h
  obtain ⟨t, rfl⟩ := rep_int ra
  cases h'; exact PySem.P.neg_int (hQ _ _ F (.toks S _) (.int _ _))
theorem inv_ok : Op1 B n (unaryOp .Invert) (int1 fun a => some (.int (-a - 1))) := by
  intro A F s a p r hA S ra h Q E hQ
  obtain ⟨i, rfl, h'⟩ := int1_some h
  obtain ⟨t, rfl⟩ := rep_int ra
  cases h'; exact invert_int (hQ _ _ F (.toks S _) (.int _ _))
noncomputable def cmpI (f : Int → Int → Bool) : V → V → Option V := int2 fun a b => some (.bool (f a b))
theorem lt_ok : Op2 B n (compareOp .Lt) (cmpI fun a b => decide (a < b)) := int2_ok fun A F s a b t u r hA S e Q E hQ => by cases e; exact PySem.P.lt_int (hQ _ _ F (.refl S) (.bool _))
theorem le_ok : Op2 B n (compareOp .LtE) (cmpI fun a b => decide (a ≤ b)) := int2_ok fun A F s a b t u r hA S e Q E hQ => by cases e; exact PySem.P.le_int (hQ _ _ F (.refl S) (.bool _))
theorem gt_ok : Op2 B n (compareOp .Gt) (cmpI fun a b => decide (a > b)) := int2_ok fun A F s a b t u r hA S e Q E hQ => by cases e; exact PySem.P.gt_int (hQ _ _ F (.refl S) (.bool _))
theorem ge_ok : Op2 B n (compareOp .GtE) (cmpI fun a b => decide (a ≥ b)) := int2_ok fun A F s a b t u r hA S e Q E hQ => by cases e; exact PySem.P.ge_int (hQ _ _ F (.refl S) (.bool _))
end
/-! equality -/
mutual
noncomputable def toPy : V → PyData
  | .none => .none
  | .bool b => .bool b
  | .int i => .int i
  | .str s => .str (strOf s)
  | .list l => .list (toPys l)
  | .tup l => .tuple (toPys l)
  | .ws _ => .none
noncomputable def toPys : List V → List PyData
  | [] => []
  | p :: ps => toPy p :: toPys ps
end
theorem toPys_eq : ∀ l : List V, toPys l = l.map toPy
  | [] => rfl
  | p :: ps => by rw [toPys, toPys_eq ps]; rfl
noncomputable def lev : Nat → V → Bool
  | _, .none => true
  | _, .bool _ => true
  | _, .int _ => true
  | _, .str _ => true
  | k + 1, .list l => l.all (lev k)
  | k + 1, .tup l => l.all (lev k)
  | _, _ => false
noncomputable def alleq (f : V → V → Bool) : List V → List V → Bool
  | [], [] => true
  | x :: xs, y :: ys => f x y && alleq f xs ys
  | _, _ => false
noncomputable def veq : Nat → V → V → Bool
  | _, .none, .none => true
  | _, .bool a, .bool b => a == b
  | _, .bool a, .int j => (if a then 1 else 0) == j
  | _, .int i, .bool b => i == (if b then 1 else 0)
  | _, .int a, .int b => a == b
  | _, .str a, .str b => a == b
  | k + 1, .list a, .list b => alleq (veq k) a b
  | k + 1, .tup a, .tup b => alleq (veq k) a b
  | _, _, _ => false
theorem eqvAll_alleq {f : V → V → Bool} : ∀ (l m : List V), (∀ x ∈ l, ∀ y ∈ m, PyData.eqv (toPy x) (toPy y) = f x y) → PyData.eqvAll (l.map toPy) (m.map toPy) = alleq f l m
  | [], [], _ => by simp [PyData.eqvAll, alleq]
  | [], _ :: _, _ => by simp [PyData.eqvAll, alleq]
  | _ :: _, [], _ => by simp [PyData.eqvAll, alleq]
  | x :: l, y :: m, h => by
    simp only [List.map_cons, PyData.eqvAll, alleq]
    rw [h x (.head _) y (.head _), eqvAll_alleq l m fun a ha b hb => h a (.tail _ ha) b (.tail _ hb)]
theorem strOf_beq (a b : List Nat) : (strOf a == strOf b) = (a == b) := by
  rw [Bool.eq_iff_iff]
  simp only [beq_iff_eq]
  exact ⟨strOf_inj, fun e => by rw [e]⟩
theorem lev_zero_list {l : List V} (h : lev 0 (.list l) = true) : False := by cases h
theorem lev_zero_tup {l : List V} (h : lev 0 (.tup l) = true) : False := by cases h
theorem lev_ws {k : Nat} {p : V} (h : lev k (.ws p) = true) : False := by cases k <;> cases h
theorem eqv_veq : ∀ (k : Nat) (p q : V), lev k p = true → lev k q = true → PyData.eqv (toPy p) (toPy q) = veq k p q := by
  intro k
  induction k with
  | zero =>
    intro p q hp hq
    cases p <;> first
      | exact (lev_zero_list hp).elim
      | exact (lev_zero_tup hp).elim
      | exact (lev_ws hp).elim
      | (cases q <;> first
          | rfl
          | exact strOf_beq _ _
          | exact (lev_zero_list hq).elim
          | exact (lev_zero_tup hq).elim
          | exact (lev_ws hq).elim)
  | succ k ih =>
    intro p q hp hq
    have key : ∀ l m : List V, l.all (lev k) = true → m.all (lev k) = true → PyData.eqvAll (l.map toPy) (m.map toPy) = alleq (veq k) l m := fun l m hl hm =>
      eqvAll_alleq l m fun x hx y hy => ih x y (List.all_eq_true.mp hl x hx) (List.all_eq_true.mp hm y hy)
    have key' : ∀ l m : List V, l.all (lev k) = true → m.all (lev k) = true → PyData.eqvAll (toPys l) (toPys m) = alleq (veq k) l m := fun l m hl hm => by
      rw [toPys_eq, toPys_eq]; exact key l m hl hm
    cases p <;> first
      | exact (lev_ws hp).elim
      | (cases q <;> first
          | rfl
          | exact strOf_beq _ _
          | exact (lev_ws hq).elim
          | exact key' _ _ hp hq)
theorem Rep.reads {F : Fz} {h : Heap} (hs : ∀ a o, F a = some o → h.get? a = some o) {v : Value} {p : V} (r : Rep F v p) : ∀ k, lev k p = true → ∃ as, Reads h v (toPy p) as :=
  Rep.rec (motive_1 := fun v p _ => ∀ k, lev k p = true → ∃ as, Reads h v (toPy p) as) (motive_2 := fun vs ps _ => ∀ k, ps.all (lev k) = true → ∃ as, ReadsAll h vs (ps.map toPy) as)
    (fun _ _ => ⟨_, .none⟩) (fun b _ _ => ⟨_, .bool b⟩) (fun i t _ _ => ⟨_, .int i t⟩) (fun x t _ _ _ => ⟨_, .str _ t⟩)
    (fun e _ _ ih k hk => by
      cases k with
      | zero => exact (lev_zero_list hk).elim
      | succ k =>
        obtain ⟨as, x⟩ := ih k hk
        exact ⟨_, by rw [toPy, toPys_eq]; exact .list (hs _ _ e) rfl rfl (by simpa using x)⟩)
    (fun e _ _ ih k hk => by
      cases k with
      | zero => exact (lev_zero_tup hk).elim
      | succ k =>
        obtain ⟨as, x⟩ := ih k hk
        exact ⟨_, by rw [toPy, toPys_eq]; exact .tuple (hs _ _ e) rfl rfl (by simpa using x)⟩)
    (fun _ _ _ _ _ _ _ _ k hk => (lev_ws hk).elim)
    (fun _ _ => ⟨_, .nil⟩)
    (fun _ _ ih1 ih2 k hk => by
      rw [List.all_cons, Bool.and_eq_true] at hk
      obtain ⟨as, x⟩ := ih1 k hk.1
      obtain ⟨bs, y⟩ := ih2 k hk.2
      exact ⟨_, .cons x y⟩) r
theorem Rep.lays {F : Fz} {v : Value} {p : V} (r : Rep F v p) : ∀ k, lev k p = true → PyData.canLay0 (toPy p) = true ∧ (toPy p).depth ≤ k :=
  Rep.rec (motive_1 := fun v p _ => ∀ k, lev k p = true → PyData.canLay0 (toPy p) = true ∧ (toPy p).depth ≤ k) (motive_2 := fun vs ps _ => ∀ k, ps.all (lev k) = true → PyData.canLayAll0 (ps.map toPy) = true ∧ PyData.depthAll (ps.map toPy) ≤ k)
    (fun _ _ => ⟨by simp [toPy, PyData.canLay0], by simp [toPy, PyData.depth]⟩) (fun _ _ _ => ⟨by simp [toPy, PyData.canLay0], by simp [toPy, PyData.depth]⟩) (fun _ _ _ _ => ⟨by simp [toPy, PyData.canLay0], by simp [toPy, PyData.depth]⟩)
    (fun x t hx _ _ => ⟨by
      simp only [toPy, PyData.canLay0]
      unfold PyData.strOk strOf
      have := (okS_iff.mp hx).2
      simp only [Array.all_eq_true]
      intro i hi
      have h3 := this (x.toArray[i]) (by simp)
      exact decide_eq_true (by (first | lia | omega)), by simp [toPy, PyData.depth]⟩)
    (fun _ _ _ ih k hk => by
      cases k with
      | zero => exact (lev_zero_list hk).elim
      | succ k =>
        have x := ih k hk
        exact ⟨by simp only [toPy, toPys_eq, PyData.canLay0]; exact x.1, by simp only [toPy, toPys_eq, PyData.depth]; (first | lia | omega)⟩)
    (fun _ _ _ ih k hk => by
      cases k with
      | zero => exact (lev_zero_tup hk).elim
      | succ k =>
        have x := ih k hk
        exact ⟨by simp only [toPy, toPys_eq, PyData.canLay0]; exact x.1, by simp only [toPy, toPys_eq, PyData.depth]; (first | lia | omega)⟩)
    (fun _ _ _ _ _ _ _ _ k hk => (lev_ws hk).elim)
    (fun _ _ => ⟨by simp [PyData.canLayAll0], by simp [PyData.depthAll]⟩)
    (fun _ _ ih1 ih2 k hk => by
      rw [List.all_cons, Bool.and_eq_true] at hk
      have x := ih1 k hk.1
      have y := ih2 k hk.2
      exact ⟨by simp [PyData.canLayAll0, x.1, y.1], by simp only [List.map_cons, PyData.depthAll]; (first | lia | omega)⟩) r
noncomputable def eqV (p q : V) : Option V := if lev 4 p && lev 4 q then some (.bool (veq 4 p q)) else none
noncomputable def neV (p q : V) : Option V := if lev 4 p && lev 4 q then some (.bool (!veq 4 p q)) else none
section
variable {B : Base} {n : Nat}
theorem room4 {A : Around} (hA : AOk (n + 1) A) : A.units + 64 < cLine := by have := hA.units; (first | lia | omega)
theorem shaped4 {F : Fz} {v : Value} {p : V} (r : Rep F v p) (h : lev 4 p = true) : SeqAt.shaped (toPy p) = true := by
  have x := r.lays 4 h
  unfold SeqAt.shaped
  rw [x.1, decide_eq_true (by (first | lia | omega))]; rfl
theorem eq_ok : Op2 B (n + 1) (compareOp .Eq) eqV := by
  intro A F s a b p q r hA S ra rb h Q E hQ
  unfold eqV at h
  split at h
  · rename_i hl
    cases h
    obtain ⟨h1, h2⟩ := Bool.and_eq_true_iff.mp hl
    obtain ⟨as, xa⟩ := ra.reads S.sub 4 h1
    obtain ⟨bs, xb⟩ := rb.reads S.sub 4 h2
    exact eq_dataH xa xb (shaped4 ra h1) (shaped4 rb h2) (room4 hA) (hQ _ _ F (.refl S) (by rw [eqv_veq 4 _ _ h1 h2]; exact .bool _))
  · cases h
theorem ne_ok : Op2 B (n + 1) (compareOp .NotEq) neV := by
  intro A F s a b p q r hA S ra rb h Q E hQ
  unfold neV at h
  split at h
  · rename_i hl
    cases h
    obtain ⟨h1, h2⟩ := Bool.and_eq_true_iff.mp hl
    obtain ⟨as, xa⟩ := ra.reads S.sub 4 h1
    obtain ⟨bs, xb⟩ := rb.reads S.sub 4 h2
    exact ne_dataH xa xb (shaped4 ra h1) (shaped4 rb h2) (room4 hA) (hQ _ _ F (.refl S) (by rw [eqv_veq 4 _ _ h1 h2]; exact .bool _))
  · cases h
end
end Mine
/-! part 4 -/
namespace Mine
open PySem PySem.Calls PyProof.Rows
open PySem.W (kms_lo kms_hi kms_bounds kms_pick_eq kms_pick krv_pick)
section
variable {B : Base} {n : Nat} {xs : Names} {gs : List Str}
/-! items -/
theorem sub_any {A : Around} {E : Value → Shared → Prop} {s : Shared} {env : Env} {value slice : Expr} {pos : Pos} {T id : String} {Q : Value → Shared → Prop}
    (hl : typeLookup (.type T) "__getitem__" = pure (some (.builtin id)))
    (h : wpAny (model prg B.w) A (eval value env) (fun o s₁ => wpAny (model prg B.w) A (eval slice env) (fun i s₂ => s₂.TypeIs o T ∧ wpAny (model prg B.w) A (getItem o i) Q E s₂) E s₁) E s)
    (hs : ∀ o i, ∃ ops, subscripted slice false o i = operate ops (getItem o i)) :
    wpAny (model prg B.w) A (eval (.Subscript value slice pos) env) Q E s := by
  rw [eval_Subscript]
  refine wpAny_bind (wpAny_mono h (fun o s₁ h₁ => wpAny_bind (wpAny_holding (wpAny_mono h₁ (fun i s₂ h₂ => wpAny_bind (wpAny_standAt ?_)) fun _ _ x => x))) fun _ _ x => x)
  refine wpAny_bind ?_
  rw [getitemInPython_of_ne h₂.1.not_modules]
  refine wpAny_bind (wpAny_specialOf h₂.1 hl ?_)
  obtain ⟨ops, e⟩ := hs o i
  refine wpAny_pure ?_
  rw [e]
  exact wpAny_bind (wpAny_operating (wpAny_mono h₂.2 (fun r s₃ h₃ => wpAny_bind (wpAny_letTemporaryGo (wpAny_pure h₃))) fun _ _ x => x))
noncomputable def pix {α : Type} (l : List α) (i : Int) : Option α := if -(2 ^ 63) ≤ i ∧ i < 2 ^ 63 then (if 0 ≤ i then l[i.toNat]? else if -(l.length : Int) ≤ i then l[(i + l.length).toNat]? else none) else none
theorem item_now {A : Around} {F : Fz} {s : Shared} {v : Value} {l : List V} {i : Int} {t : Tok} {p : V} (S : St B F s.heap) (r : Now F s.heap v l) (h : pix l i = some p) : Do B A F s (getItem v (.int i t)) (fun F' _ w => Rep F' w p) := by
  intro Q E hQ
  obtain ⟨a, vs, k, rfl, ht, hg, r, hl⟩ := r
  unfold pix at h
  split at h
  · rename_i hb
    split at h
    · rename_i h0
      obtain ⟨v, e, rv⟩ := r.get' h
      exact wpAny_getItem_list (isList_of hg) h0 hb.2 (by simpa using e) (hQ _ _ F (.refl S) rv)
    · rename_i h0
      split at h
      · rename_i h1
        obtain ⟨v, e, rv⟩ := r.get' h
        refine wpAny_getItem_list_neg (isList_of hg) (by omega) (by rw [List.size_toArray, r.length]; exact h1) hb.1 ?_ (hQ _ _ F (.refl S) rv)
        rw [List.size_toArray, r.length]
        simpa using e
      · cases h
  · cases h
noncomputable def pitemN (f : El) (g : E) : E := fun Γ σ => (f Γ σ).bind fun l => (g Γ σ).bind fun i => match i with | .int i => pix l i | _ => none
theorem E_itemN {value slice : Expr} {pos : Pos} {f : El} {g : E} (hv : Looks B n xs gs (fun env => eval value env) f) (hi : Evals B n xs gs (fun env => eval slice env) g)
    (hs : ∀ o i, ∃ ops, subscripted slice false o i = operate ops (getItem o i) := by intro _ _; exact ⟨_, rfl⟩) : Evals B n xs gs (fun env => eval (.Subscript value slice pos) env) (pitemN f g) := by
  intro env A F μ Γ σ s p hA S R X hf Q E hQ
  obtain ⟨l, el, hf⟩ := Option.bind_eq_some_iff.mp hf
  obtain ⟨i, ei, hf⟩ := Option.bind_eq_some_iff.mp hf
  have hf2 : ∃ j, i = .int j ∧ pix l j = some p := by
    cases i <;> first | exact ⟨_, rfl, hf⟩ | cases hf
  clear hf
  obtain ⟨j, rfl, hf⟩ := hf2
  refine sub_any (T := "list") slot_list_getitem.lookup (hv env A F μ Γ σ s l hA S R X el _ E fun o s₁ F₁ n₁ r₁ => hi env A F₁ μ Γ σ s₁ _ hA n₁.st (R.next n₁) (X.next n₁) ei _ E fun iv s₂ F₂ n₂ r₂ => ?_) hs
  obtain ⟨t2, rfl⟩ := rep_int r₂
  have r₃ := r₁.next n₂
  refine ⟨?_, item_now n₂.st r₃ hf Q E fun v s₃ F₃ n₃ r₃ => hQ v s₃ F₃ ((n₁.trans n₂).trans n₃) r₃⟩
  obtain ⟨a, vs, k, rfl, ht, hg, r, hl⟩ := r₃
  exact ⟨_, hg, rfl⟩
/-- an item of a list or of a text -/
noncomputable def itemV : V → V → Option V
  | .list l, .int i => pix l i
  | .str x, .int i => (pix x i).map fun c => .str [c]
  | _, _ => none
theorem pix_mem {α : Type} {l : List α} {i : Int} {c : α} (h : pix l i = some c) : c ∈ l := by
  unfold pix at h
  split at h
  · split at h
    · exact List.mem_of_getElem? h
    · split at h
      · exact List.mem_of_getElem? h
      · cases h
  · cases h
theorem pix_seqIndex {x : List Nat} {i : Int} {c : Nat} (h : pix x i = some c) : (seqIndex? i (strOf x).length).bind ((strOf x).cps[·]?) = some c ∧ (decide (i < -(2 ^ 63 : Int)) || decide (i ≥ 2 ^ 63)) = false := by
  unfold pix at h
  split at h
  · rename_i hb
    refine ⟨?_, by simp only [Bool.or_eq_false_iff, decide_eq_false_iff_not]; omega⟩
    rw [len_strOf]
    split at h
    · rename_i h0
      have hlt := (List.getElem?_eq_some_iff.mp h).1
      rw [seqIndex_of h0 (by omega)]
      simpa [strOf] using h
    · rename_i h0
      split at h
      · rename_i h1
        rw [seqIndex_neg (by omega) h1]
        simpa [strOf] using h
      · cases h
  · cases h
theorem E_item {value slice : Expr} {pos : Pos} {f g : E} (hv : Evals B n xs gs (fun env => eval value env) f) (hi : Evals B n xs gs (fun env => eval slice env) g)
    (hs : ∀ o i, ∃ ops, subscripted slice false o i = operate ops (getItem o i) := by intro _ _; exact ⟨_, rfl⟩) : Evals B n xs gs (fun env => eval (.Subscript value slice pos) env) (p2 itemV f g) := by
  intro env A F μ Γ σ s p hA S R X hf Q E hQ
  obtain ⟨a, ea, hf⟩ := Option.bind_eq_some_iff.mp hf
  obtain ⟨b, eb, hf⟩ := Option.bind_eq_some_iff.mp hf
  have hf2 : (∃ x i, a = .str x ∧ b = .int i ∧ (pix x i).map (fun c => V.str [c]) = some p) ∨ ∃ l i, a = .list l ∧ b = .int i ∧ pix l i = some p := by
    unfold itemV at hf
    split at hf
    · exact .inr ⟨_, _, rfl, rfl, hf⟩
    · exact .inl ⟨_, _, rfl, rfl, hf⟩
    · cases hf
  clear hf
  rcases hf2 with ⟨x, i, rfl, rfl, hf⟩ | ⟨l, i, rfl, rfl, hf⟩
  · obtain ⟨c, ec, rfl⟩ := Option.map_eq_some_iff.mp hf
    refine sub_any (T := "str") PySem.F.slot_str_getitem.lookup (hv env A F μ Γ σ s _ hA S R X ea _ E fun o s₁ F₁ n₁ r₁ => hi env A F₁ μ Γ σ s₁ _ hA n₁.st (R.next n₁) (X.next n₁) eb _ E fun iv s₂ F₂ n₂ r₂ => ?_) hs
    obtain ⟨u, rfl⟩ := rep_int r₂
    obtain ⟨t, rfl, hx⟩ := rep_str r₁
    obtain ⟨h1, h2⟩ := pix_seqIndex ec
    have hc := (okS_iff.mp hx).2 c (pix_mem ec)
    exact ⟨typeIs_str _ _ _, PySem.P.getItem_str h2 h1 (hQ _ _ F₂ ((n₁.trans n₂).trans (.toks n₂.st _)) (.str [c] _ (okS_iff.mpr ⟨by simp [lim], by simpa using hc⟩)))⟩
  · refine sub_any (T := "list") slot_list_getitem.lookup (hv env A F μ Γ σ s _ hA S R X ea _ E fun o s₁ F₁ n₁ r₁ => hi env A F₁ μ Γ σ s₁ _ hA n₁.st (R.next n₁) (X.next n₁) eb _ E fun iv s₂ F₂ n₂ r₂ => ?_) hs
    obtain ⟨t2, rfl⟩ := rep_int r₂
    have r₃ := now_of n₂.st (r₁.mono n₂.ext)
    refine ⟨?_, item_now n₂.st r₃ hf Q E fun v s₃ F₃ n₃ r₃ => hQ v s₃ F₃ ((n₁.trans n₂).trans n₃) r₃⟩
    obtain ⟨a, vs, k, rfl, ht, hg, r, hl⟩ := r₃
    exact ⟨_, hg, rfl⟩
/-! slices -/
/-- a slice's part -/
noncomputable abbrev Part (B : Base) (n : Nat) (xs : Names) (gs : List Str) (x : Option Expr) (f : Cx → AH → Option (Option Int)) : Prop := Runs B n xs gs (fun env => evalPart x env) f fun _ _ _ v p => ∃ t, v = partValue (p.map fun i => (i, t))
theorem P_none : Part B n xs gs none (fun _ _ => some none) := by
  intro env A F μ Γ σ s p hA S R X hf Q E hQ
  cases hf
  exact wpAny_pure (hQ _ s F (.refl S) ⟨0, rfl⟩)
noncomputable def ppart (f : E) : Cx → AH → Option (Option Int) := fun Γ σ => (f Γ σ).bind fun p => match p with | .none => some none | .int i => some (some i) | _ => none
theorem P_some {e : Expr} {f : E} (h : Evals B n xs gs (fun env => eval e env) f) : Part B n xs gs (some e) (ppart f) := by
  intro env A F μ Γ σ s p hA S R X hf Q E hQ
  obtain ⟨a, ea, hf⟩ := Option.bind_eq_some_iff.mp hf
  show wpAny _ _ (eval e env) _ _ _
  refine h env A F μ Γ σ s a hA S R X ea Q E fun v s₁ F₁ n₁ r₁ => ?_
  cases a <;> simp only [reduceCtorEq] at hf
  · cases hf; cases rep_none r₁; exact hQ _ _ _ n₁ ⟨0, rfl⟩
  · cases hf; obtain ⟨t, rfl⟩ := rep_int r₁; exact hQ _ _ _ n₁ ⟨_, rfl⟩
noncomputable def psl {α : Type} (lo hi : Option Int) (l : List α) : List α := (l.drop (kms_lo lo l.length)).take (kms_hi hi l.length - kms_lo lo l.length)
theorem isPart_of (p : Option Int) (t : Tok) : PySem.IsPart (partValue (p.map fun i => (i, t))) p := by
  cases p with
  | none => exact .none
  | some i => exact .int i t
theorem psl_length {α : Type} (lo hi : Option Int) (l : List α) : (psl lo hi l).length ≤ l.length := by
  unfold psl; simp only [List.length_take, List.length_drop]; omega
theorem psl_mem {α : Type} {lo hi : Option Int} {l : List α} {x : α} (h : x ∈ psl lo hi l) : x ∈ l := List.mem_of_mem_drop (List.mem_of_mem_take h)
theorem pushSlice {h : Heap} {l u st : Value} : ∀ b o, h.get? b = some o → (h.push { cls := .type "slice", data := .fields #[l, u, st] }).get? b = some o := fun b o e => Heap.get?_push_of_some _ e
noncomputable def pslice {α : Type} (f : Cx → AH → Option α) (g h : Cx → AH → Option (Option Int)) (k : Option Int → Option Int → α → Option V) : E := fun Γ σ => (f Γ σ).bind fun l => (g Γ σ).bind fun lo => (h Γ σ).bind fun hi => k lo hi l
noncomputable def psliceL (f : El) (g h : Cx → AH → Option (Option Int)) : El := fun Γ σ => (f Γ σ).bind fun l => (g Γ σ).bind fun lo => (h Γ σ).bind fun hi => some (psl lo hi l)
theorem FL_slice {value : Expr} {lower upper : Option Expr} {p pos : Pos} {f : El} {g h : Cx → AH → Option (Option Int)} (hv : Looks B n xs gs (fun env => eval value env) f) (hlo : Part B n xs gs lower g) (hhi : Part B n xs gs upper h) :
    Fresh B n xs gs (fun env => eval (.Subscript value (.Slice lower upper none p) pos) env) (psliceL f g h) := by
  intro env A F μ Γ σ s q hA S R X hf Q E hQ
  obtain ⟨l, el, hf⟩ := Option.bind_eq_some_iff.mp hf
  obtain ⟨lo, e1, hf⟩ := Option.bind_eq_some_iff.mp hf
  obtain ⟨hi, e2, hf⟩ := Option.bind_eq_some_iff.mp hf
  cases hf
  refine sub_any (T := "list") slot_list_getitem.lookup (hv env A F μ Γ σ s l hA S R X el _ E fun o s₁ F₁ n₁ r₁ => ?_) fun o i => ⟨_, rfl⟩
  refine wpAny_Slice (hlo env A F₁ μ Γ σ s₁ _ hA n₁.st (R.next n₁) (X.next n₁) e1 _ E fun v1 s₂ F₂ n₂ r₂ => hhi env A F₂ μ Γ σ s₂ _ hA n₂.st ((R.next n₁).next n₂) ((X.next n₁).next n₂) e2 _ E fun v2 s₃ F₃ n₃ r₃ => ?_)
  rw [evalPart_none]
  refine wpAny_pure ?_
  obtain ⟨a, vs, k, rfl, ht, hg, r, hl⟩ := (r₁.next n₂).next n₃
  obtain ⟨t1, rfl⟩ := r₂
  obtain ⟨t2, rfl⟩ := r₃
  refine ⟨⟨_, pushSlice _ _ hg, rfl⟩, ?_⟩
  have N := (n₁.trans n₂).trans n₃
  refine wpAny_getItem_list_slice (isList_of (pushSlice _ _ hg)) (Heap.IsSliceOf.new ..) (isPart_of lo t1) (isPart_of hi t2) .none (by simp) ?_ (by rw [List.size_toArray, r.length]; exact lim_size hl)
  rw [Heap.size_push]
  refine hQ _ _ F₃ (N.trans (Next.keeps (t := s₃.toks) n₃.st fun b o e => Heap.get?_push_of_some _ (pushSlice _ _ e))) ?_
  have hn : s₃.heap.get? (s₃.heap.objs.size + 1) = none := get_ge (Nat.le_succ _)
  refine ⟨s₃.heap.objs.size + 1, psl lo hi vs, 0, rfl, N.gone hn, n₃.st.none hn, ?_, ?_, ?_⟩
  · rw [show s₃.heap.objs.size + 1 = (s₃.heap.push { cls := .type "slice", data := .fields #[partValue (lo.map fun i => (i, t1)), partValue (hi.map fun i => (i, t2)), .none] }).objs.size from (Heap.size_push ..).symm, Heap.get?_push_size _ rfl]
    rw [kms_pick_eq]
    rfl
  · unfold psl
    rw [r.length]
    exact (r.drop _).take _
  · exact Nat.le_trans (psl_length lo hi l) hl
theorem FL_rev {value st : Expr} {p pos : Pos} {f : El} {g : E} (hv : Looks B n xs gs (fun env => eval value env) f) (hst : Evals B n xs gs (fun env => eval st env) g) :
    Fresh B n xs gs (fun env => eval (.Subscript value (.Slice none none (some st) p) pos) env) (fun Γ σ => (f Γ σ).bind fun l => (g Γ σ).bind fun i => match i with | .int i => if i = -1 then some l.reverse else none | _ => none) := by
  intro env A F μ Γ σ s q hA S R X hf Q E hQ
  obtain ⟨l, el, hf⟩ := Option.bind_eq_some_iff.mp hf
  obtain ⟨i, ei, hf⟩ := Option.bind_eq_some_iff.mp hf
  cases i <;> simp only [reduceCtorEq] at hf
  split at hf
  · rename_i hi
    cases hf
    subst hi
    refine sub_any (T := "list") slot_list_getitem.lookup (hv env A F μ Γ σ s l hA S R X el _ E fun o s₁ F₁ n₁ r₁ => ?_) fun o i => ⟨_, rfl⟩
    refine wpAny_Slice (wpAny_pure (wpAny_pure ?_))
    rw [evalPart_some]
    refine hst env A F₁ μ Γ σ s₁ _ hA n₁.st (R.next n₁) (X.next n₁) ei _ E fun v1 s₃ F₃ n₃ r₃ => ?_
    obtain ⟨a, vs, k, rfl, ht, hg, r, hl⟩ := r₁.next n₃
    obtain ⟨t, rfl⟩ := rep_int r₃
    refine ⟨⟨_, pushSlice _ _ hg, rfl⟩, ?_⟩
    have N := n₁.trans n₃
    refine wpAny_getItem_list_slice (isList_of (pushSlice _ _ hg)) (Heap.IsSliceOf.new ..) .none .none (.int _ _) (by simp) ?_ (by rw [List.size_toArray, r.length]; exact lim_size hl)
    rw [Heap.size_push]
    refine hQ _ _ F₃ (N.trans (Next.keeps (t := s₃.toks) n₃.st fun b o e => Heap.get?_push_of_some _ (pushSlice _ _ e))) ?_
    have hn : s₃.heap.get? (s₃.heap.objs.size + 1) = none := get_ge (Nat.le_succ _)
    refine ⟨s₃.heap.objs.size + 1, vs.reverse, 0, rfl, N.gone hn, n₃.st.none hn, ?_, r.reverse, by simpa using hl⟩
    rw [show s₃.heap.objs.size + 1 = (s₃.heap.push { cls := .type "slice", data := .fields #[.none, .none, .int (-1) t] }).objs.size from (Heap.size_push ..).symm, Heap.get?_push_size _ rfl]
    rw [krv_pick]
  · cases hf
theorem wpAny_Subscript_str_slice' {A : Around} {E : Value → Shared → Prop} {s : Shared} {env : Env} {value : Expr} {lower upper : Option Expr} {p pos : Pos} {Q : Value → Shared → Prop}
    (h : wpAny (model prg B.w) A (eval value env) (fun o s₁ => wpAny (model prg B.w) A (evalPart lower env) (fun vl s₂ => wpAny (model prg B.w) A (evalPart upper env) (fun vu s₃ =>
      ∃ x t l u, o = .str x t ∧ vl = partValue l ∧ vu = partValue u ∧
        (sliceMade x t l u none).post Q { s₃ with heap := s₃.heap.push { cls := .type "slice", data := .fields #[vl, vu, .none] } }) E s₂) E s₁) E s) :
    wpAny (model prg B.w) A (eval (.Subscript value (.Slice lower upper none p) pos) env) Q E s := by
  refine sub_any (T := "str") PySem.F.slot_str_getitem.lookup (wpAny_mono h (fun o s₁ h₁ => wpAny_Slice (wpAny_mono h₁ (fun vl s₂ h₂ => wpAny_mono h₂ (fun vu s₃ h₃ => ?_) fun _ _ e => e) fun _ _ e => e)) fun _ _ e => e) fun o i => ⟨_, rfl⟩
  obtain ⟨x, t, l, u, rfl, rfl, rfl, hQ⟩ := h₃
  rw [evalPart_none]
  exact wpAny_pure ⟨typeIs_str _ x t, wpAny_getItem_str_slice (l := l) (u := u) (st := none) ⟨_, Heap.get?_push_size _ rfl, rfl, rfl⟩ rfl hQ⟩
theorem strPick (x : List Nat) (lo hi : Option Int) : (Builtin.Str.strSliceIndices lo hi 1 x.length).filterMap (x.toArray[·]?) = psl lo hi x := by
  have e : Builtin.Str.strSliceIndices lo hi 1 x.length = sliceRange (sliceBounds lo hi none x.length).1 (sliceBounds lo hi none x.length).2.1 (sliceBounds lo hi none x.length).2.2 := rfl
  rw [e, kms_bounds]
  simp only [sliceRange_one, pick_run]
  rfl
theorem strPick_all (x : List Nat) (lo hi : Option Int) (h : (Builtin.Str.strSliceIndices lo hi 1 x.length).length = x.length) : psl lo hi x = x := by
  have e : Builtin.Str.strSliceIndices lo hi 1 x.length = sliceRange (sliceBounds lo hi none x.length).1 (sliceBounds lo hi none x.length).2.1 (sliceBounds lo hi none x.length).2.2 := rfl
  rw [e, kms_bounds] at h
  simp only [sliceRange_one, List.length_map, List.length_range] at h
  have h1 : kms_hi hi x.length ≤ x.length := by unfold kms_hi; split <;> (try split) <;> omega
  have h3 : kms_lo lo x.length ≤ x.length := by unfold kms_lo; split <;> (try split) <;> omega
  have h2 : kms_lo lo x.length = 0 := by omega
  unfold psl
  rw [h2, List.drop_zero, Nat.sub_zero, List.take_of_length_le (by omega)]
noncomputable def pstr (f : E) : Cx → AH → Option (List Nat) := fun Γ σ => match f Γ σ with | some (.str x) => some x | _ => none
theorem E_sliceS {value : Expr} {lower upper : Option Expr} {p pos : Pos} {f : E} {g h : Cx → AH → Option (Option Int)} (hv : Evals B n xs gs (fun env => eval value env) f) (hlo : Part B n xs gs lower g) (hhi : Part B n xs gs upper h) :
    Evals B n xs gs (fun env => eval (.Subscript value (.Slice lower upper none p) pos) env) (pslice (pstr f) g h fun lo hi x => some (.str (psl lo hi x))) := by
  intro env A F μ Γ σ s q hA S R X hf Q E hQ
  obtain ⟨x, ex, hf⟩ := Option.bind_eq_some_iff.mp hf
  obtain ⟨lo, e1, hf⟩ := Option.bind_eq_some_iff.mp hf
  obtain ⟨hi, e2, hf⟩ := Option.bind_eq_some_iff.mp hf
  cases hf
  have ev : f Γ σ = some (.str x) := by
    unfold pstr at ex
    split at ex
    · cases ex; assumption
    · cases ex
  refine wpAny_Subscript_str_slice' (hv env A F μ Γ σ s _ hA S R X ev _ E fun o s₁ F₁ n₁ r₁ => hlo env A F₁ μ Γ σ s₁ _ hA n₁.st (R.next n₁) (X.next n₁) e1 _ E fun v1 s₂ F₂ n₂ r₂ =>
    hhi env A F₂ μ Γ σ s₂ _ hA n₂.st ((R.next n₁).next n₂) ((X.next n₁).next n₂) e2 _ E fun v2 s₃ F₃ n₃ r₃ => ?_)
  obtain ⟨t, rfl, hx⟩ := rep_str r₁
  obtain ⟨t1, rfl⟩ := r₂
  obtain ⟨t2, rfl⟩ := r₃
  have N := (n₁.trans n₂).trans n₃
  refine ⟨_, _, _, _, rfl, rfl, rfl, ?_⟩
  have hok : okS (psl lo hi x) = true := okS_iff.mpr ⟨Nat.le_trans (psl_length lo hi x) (okS_iff.mp hx).1, fun c hc => (okS_iff.mp hx).2 c (psl_mem hc)⟩
  have e0 : slicePicked (strOf x) (lo.map fun i => (i, t1)) (hi.map fun i => (i, t2)) none = Builtin.Str.strSliceIndices lo hi 1 x.length := by
    unfold slicePicked
    rw [len_strOf]
    cases lo <;> cases hi <;> rfl
  unfold sliceMade
  rw [e0, len_strOf]
  split
  · rename_i h8
    have h9 : (Builtin.Str.strSliceIndices lo hi 1 x.length).length = x.length := by simpa using h8
    refine hQ _ _ F₃ (N.trans (Next.keeps (t := s₃.toks) n₃.st fun b o e => pushSlice _ _ e)) ?_
    rw [strPick_all x lo hi h9]
    exact .str x t hx
  · have e8 : (⟨((Builtin.Str.strSliceIndices lo hi 1 x.length).filterMap ((strOf x).cps[·]?)).toArray⟩ : Str) = strOf (psl lo hi x) := by
      rw [← strPick]; rfl
    rw [e8]
    refine ⟨by rw [len_strOf]; exact lim_size (okS_iff.mp hok).1, hQ _ _ F₃ (N.trans (Next.keeps (t := s₃.toks + 1) n₃.st fun b o e => pushSlice _ _ e)) (.str _ _ hok)⟩
end
end Mine
/-! part 5 -/
namespace Mine
open PySem PySem.Calls PyProof.Rows
section
variable {B : Base} {n : Nat} {xs : Names} {gs : List Str}
/-! lists of ints -/
noncomputable def intsOf : List V → Option (List Int)
  | [] => some []
  | .int i :: r => (intsOf r).map (i :: ·)
  | _ => none
theorem intsOf_ints : ∀ l : List Int, intsOf (l.map V.int) = some l
  | [] => rfl
  | i :: l => by simp [intsOf, intsOf_ints l]
theorem intsOf_some : ∀ {l : List V} {ns : List Int}, intsOf l = some ns → l = ns.map V.int
  | [], ns, h => by cases h; rfl
  | .int i :: r, ns, h => by
    obtain ⟨m, e, rfl⟩ := Option.map_eq_some_iff.mp h
    rw [intsOf_some e]; rfl
  | .none :: r, ns, h => by simp [intsOf] at h
  | .bool _ :: r, ns, h => by simp [intsOf] at h
  | .str _ :: r, ns, h => by simp [intsOf] at h
  | .list _ :: r, ns, h => by simp [intsOf] at h
  | .tup _ :: r, ns, h => by simp [intsOf] at h
  | .ws _ :: r, ns, h => by simp [intsOf] at h
theorem ints_items {F : Fz} {vs : List Value} : ∀ {ns : List Int}, Reps F vs (ns.map V.int) → ∃ l : List (Int × Tok), vs = l.map (fun p => Value.int p.1 p.2) ∧ l.map (·.1) = ns := by
  induction vs with
  | nil =>
    intro ns h
    cases ns with
    | nil => exact ⟨[], rfl, rfl⟩
    | cons i ns => cases h
  | cons v vs ih =>
    intro ns h
    cases ns with
    | nil => cases h
    | cons i ns =>
      cases h with
      | cons h1 h2 =>
        obtain ⟨l, e1, e2⟩ := ih h2
        cases h1 with
        | int _ t => exact ⟨(i, t) :: l, by rw [e1]; rfl, by rw [← e2]; rfl⟩
/-! calls upon a list as it stands -/
noncomputable def FnNow (B : Base) (n : Nat) (fv : Value) (h : List V → Option V) : Prop :=
  ∀ A F s v l p, AOk n A → St B F s.heap → Now F s.heap v l → h l = some p → Do B A F s (call fv [v] []) (fun F' _ w => Rep F' w p)
theorem FnNow.up {fv : Value} {f : List V → Option V} {m : Nat} (h : FnNow B m fv f) (hm : m ≤ n) : FnNow B n fv f := fun A F s v l p hA => h A F s v l p (hA.mono hm)
theorem E_call1 {x : Str} {p pos : Pos} {arg : Expr} {fv : Value} {h : List V → Option V} {f : El} (hx : x ∈ gs) (hg : Glob B x fv) (hk : Keep B fv) (hf : FnNow B n fv h) (ha : Looks B n xs gs (fun env => eval arg env) f)
    (he : ∀ env, starEach [arg] env = [(false, eval arg env)] := by intro _; rfl) :
    Evals B n xs gs (fun env => eval (.Call (.Name x p) [arg] [] pos) env) (fun Γ σ => (f Γ σ).bind h) := by
  intro env A F μ Γ σ s r hA S R X hr Q E hQ
  obtain ⟨ps, ea, hr⟩ := Option.bind_eq_some_iff.mp hr
  show wpAny (model prg B.w) A (do callWith pos (← eval (.Name x p) env) [] (backTo pos (starEach [arg] env)) (backToKw pos (keywordEach [] env))) Q E s
  refine wpAny_bind (hg A F env s p _ E S R.glob R.bui R.fn (R.gl x hx) ?_)
  refine callWith_any (by rw [he]; rfl) ?_
  refine wpAny_items_cons (ha env A F μ Γ σ s ps hA S R X ea _ E fun v s₁ F₁ n₁ r₁ => wpAny_items_nil ?_) (he env)
  refine hk A F₁ s₁ _ E n₁.st fun k => ⟨rfl, ?_⟩
  exact hf A F₁ s₁ v ps r hA n₁.st r₁ hr Q E fun v s₂ F₂ n₂ r₂ => hQ v s₂ F₂ (n₁.trans n₂) r₂
theorem now_size {F : Fz} {vs : List Value} {l : List V} (r : Reps F vs l) (hl : l.length ≤ lim) : vs.toArray.size ≤ sizeLine := by rw [List.size_toArray, r.length]; exact lim_size hl
theorem now_fit {F : Fz} {vs : List Value} {l : List V} (r : Reps F vs l) (hl : l.length ≤ lim) : ((vs.toArray.size : Nat) : Int) < 2 ^ 63 := by rw [List.size_toArray, r.length]; exact lim_fits hl
theorem len_now : FnNow B n (.builtin "len") (fun l => some (.int l.length)) := by
  intro A F s v l p hA S r h Q E hQ
  obtain ⟨a, vs, k, rfl, ht, hg, r, hl⟩ := r
  cases h
  refine Calls.call_len_list (isList_of hg) (now_fit r hl) (hQ _ _ F (.toks S _) ?_)
  rw [List.size_toArray, r.length]
  exact .int _ _
theorem tuple_now : FnNow B n (.type "tuple") (fun l => some (.tup l)) := by
  intro A F s v l p hA S r h Q E hQ
  obtain ⟨a, vs, k, rfl, ht, hg, r, hl⟩ := r
  cases h
  refine call_tuple_list (isList_of hg) (fun h' hk => ?_) (now_size r hl)
  have hn : s.heap.get? h'.objs.size = none := by
    cases q : s.heap.get? h'.objs.size with
    | none => rfl
    | some o => have := Heap.lt_size (hk _ _ q); exact absurd this (Nat.lt_irrefl _)
  refine hQ _ _ (F.put h'.objs.size ⟨.type "tuple", none, .seq vs.toArray 0, #[]⟩) (Next.made (t := s.toks) S (fun b o e => Heap.get?_push_of_some _ (hk b o e)) hn (Heap.get?_push_size _ rfl)) ?_
  exact .tup Fz.put_self (r.mono (Fz.le_put (S.none hn))) hl
theorem foldl_max : ∀ (r : List Int) (x M : Int), M ∈ x :: r → (∀ a ∈ x :: r, a ≤ M) → r.foldl max x = M
  | [], x, M, h1, h2 => by simp at h1; exact h1.symm
  | y :: r, x, M, h1, h2 => by
    rw [List.foldl_cons]
    refine foldl_max r (max x y) M ?_ fun a ha => ?_
    · have hx := h2 x (.head _)
      have hy := h2 y (.tail _ (.head _))
      rcases List.mem_cons.mp h1 with rfl | h1
      · exact List.mem_cons.mpr (.inl (by (first | lia | omega)))
      · rcases List.mem_cons.mp h1 with rfl | h1
        · exact List.mem_cons.mpr (.inl (by (first | lia | omega)))
        · exact List.mem_cons.mpr (.inr h1)
    · rcases List.mem_cons.mp ha with rfl | ha
      · have hx := h2 x (.head _)
        have hy := h2 y (.tail _ (.head _))
        (first | lia | omega)
      · exact h2 a (.tail _ (.tail _ ha))
theorem foldl_min : ∀ (r : List Int) (x M : Int), M ∈ x :: r → (∀ a ∈ x :: r, M ≤ a) → r.foldl min x = M
  | [], x, M, h1, h2 => by simp at h1; exact h1.symm
  | y :: r, x, M, h1, h2 => by
    rw [List.foldl_cons]
    refine foldl_min r (min x y) M ?_ fun a ha => ?_
    · have hx := h2 x (.head _)
      have hy := h2 y (.tail _ (.head _))
      rcases List.mem_cons.mp h1 with rfl | h1
      · exact List.mem_cons.mpr (.inl (by (first | lia | omega)))
      · rcases List.mem_cons.mp h1 with rfl | h1
        · exact List.mem_cons.mpr (.inl (by (first | lia | omega)))
        · exact List.mem_cons.mpr (.inr h1)
    · rcases List.mem_cons.mp ha with rfl | ha
      · have hx := h2 x (.head _)
        have hy := h2 y (.tail _ (.head _))
        (first | lia | omega)
      · exact h2 a (.tail _ (.tail _ ha))
noncomputable def maxI : List Int → Option Int
  | [] => none
  | x :: r => some (r.foldl max x)
noncomputable def minI : List Int → Option Int
  | [] => none
  | x :: r => some (r.foldl min x)
noncomputable def onInts (f : List Int → Option Int) (l : List V) : Option V := (intsOf l).bind fun ns => (f ns).map V.int
theorem numAt_mem {l : List (Int × Tok)} {i : Nat} (h : i < l.length) : numAt l.toArray i ∈ l.map (·.1) := by
  simp only [numAt, List.getElem?_toArray, List.getElem?_eq_getElem h, Option.map_some, Option.getD_some]
  exact List.mem_map_of_mem (List.getElem_mem h)
theorem mem_numAt {l : List (Int × Tok)} {a : Int} (h : a ∈ l.map (·.1)) : ∃ i, i < l.length ∧ numAt l.toArray i = a := by
  obtain ⟨p, hp, rfl⟩ := List.mem_map.mp h
  obtain ⟨i, hi, rfl⟩ := List.mem_iff_getElem.mp hp
  exact ⟨i, hi, by simp [numAt, hi]⟩
theorem max_now : FnNow B n (.builtin "max") (onInts maxI) := by
  intro A F s v l p hA S r h Q E hQ
  obtain ⟨a, vs, k, rfl, ht, hg, r, hl⟩ := r
  obtain ⟨ns, e, h⟩ := Option.bind_eq_some_iff.mp h
  obtain ⟨M, eM, rfl⟩ := Option.map_eq_some_iff.mp h
  rw [intsOf_some e] at r
  obtain ⟨l, rfl, rfl⟩ := ints_items r
  have hi : s.heap.IsList a (intItems l.toArray) := by have := isList_of hg; simpa [intItems] using this
  cases l with
  | nil => cases eM
  | cons x l =>
    refine max_intList hA.handled hi (by simp) fun v h' tk hv hk => ?_
    obtain ⟨t, rfl⟩ := intItems_at hv
    obtain ⟨h1, h2⟩ := argBest_gt (numAt (x :: l).toArray) ((x :: l).toArray.size - 1)
    have e2 : M = numAt (x :: l).toArray (argBest (fun i j => decide (numAt (x :: l).toArray i > numAt (x :: l).toArray j)) ((x :: l).toArray.size - 1)) := by
      have e3 := Option.some.inj eM
      rw [← e3]
      refine foldl_max _ _ _ (numAt_mem (l := x :: l) (by simp at h1 ⊢; (first | lia | omega))) fun b hb => ?_
      obtain ⟨i, hi, rfl⟩ := mem_numAt (l := x :: l) hb
      exact h2 i (by simp at hi ⊢; (first | lia | omega))
    refine hQ _ _ F (Next.keeps S hk) ?_
    rw [e2]
    exact .int _ _
theorem min_now : FnNow B n (.builtin "min") (onInts minI) := by
  intro A F s v l p hA S r h Q E hQ
  obtain ⟨a, vs, k, rfl, ht, hg, r, hl⟩ := r
  obtain ⟨ns, e, h⟩ := Option.bind_eq_some_iff.mp h
  obtain ⟨M, eM, rfl⟩ := Option.map_eq_some_iff.mp h
  rw [intsOf_some e] at r
  obtain ⟨l, rfl, rfl⟩ := ints_items r
  have hi : s.heap.IsList a (intItems l.toArray) := by have := isList_of hg; simpa [intItems] using this
  cases l with
  | nil => cases eM
  | cons x l =>
    refine min_intList hA.handled hi (by simp) fun v h' tk hv hk => ?_
    obtain ⟨t, rfl⟩ := intItems_at hv
    obtain ⟨h1, h2⟩ := argBest_lt (numAt (x :: l).toArray) ((x :: l).toArray.size - 1)
    have e2 : M = numAt (x :: l).toArray (argBest (fun i j => decide (numAt (x :: l).toArray i < numAt (x :: l).toArray j)) ((x :: l).toArray.size - 1)) := by
      have e3 := Option.some.inj eM
      rw [← e3]
      refine foldl_min _ _ _ (numAt_mem (l := x :: l) (by simp at h1 ⊢; (first | lia | omega))) fun b hb => ?_
      obtain ⟨i, hi, rfl⟩ := mem_numAt (l := x :: l) hb
      exact h2 i (by simp at hi ⊢; (first | lia | omega))
    refine hQ _ _ F (Next.keeps S hk) ?_
    rw [e2]
    exact .int _ _
theorem sum_now : FnNow B n (.builtin "sum") (onInts fun ns => some ns.sum) := by
  intro A F s v l p hA S r h Q E hQ
  obtain ⟨a, vs, k, rfl, ht, hg, r, hl⟩ := r
  obtain ⟨ns, e, h⟩ := Option.bind_eq_some_iff.mp h
  obtain ⟨M, eM, rfl⟩ := Option.map_eq_some_iff.mp h
  cases eM
  rw [intsOf_some e] at r
  obtain ⟨l, rfl, rfl⟩ := ints_items r
  have hi : s.heap.IsList a (intItems l.toArray) := by have := isList_of hg; simpa [intItems] using this
  refine sum_intListG hA.handled hi fun h' tk t' hk => hQ _ _ F (Next.keeps S hk) ?_
  rw [preSum_eq, List.take_of_length_le (by simp)]
  exact .int _ _
/-! calls upon values -/
noncomputable def fn1 (h : V → Option V) : List V → Option V
  | [a] => h a
  | _ => none
noncomputable def fn2 (h : V → V → Option V) : List V → Option V
  | [a, b] => h a b
  | _ => none
theorem fn1_ok {fv : Value} {h : V → Option V} (k : ∀ A F s v p q, AOk n A → St B F s.heap → Rep F v p → h p = some q → Do B A F s (call fv [v] []) (fun F' _ w => Rep F' w q)) : FnOk B n fv (fn1 h) := by
  intro A F s vals ps p hA S r e
  match ps, e with
  | [a], e =>
    cases r with
    | cons r t => cases t; exact k A F s _ _ _ hA S r e
theorem fn2_ok {fv : Value} {h : V → V → Option V} (k : ∀ A F s v w p q r, AOk n A → St B F s.heap → Rep F v p → Rep F w q → h p q = some r → Do B A F s (call fv [v, w] []) (fun F' _ w => Rep F' w r)) : FnOk B n fv (fn2 h) := by
  intro A F s vals ps p hA S r e
  match ps, e with
  | [a, b], e =>
    cases r with
    | cons r t => cases t with
      | cons r2 t => cases t; exact k A F s _ _ _ _ _ hA S r r2 e
noncomputable def lenV : V → Option V
  | .str x => some (.int x.length)
  | .list l => some (.int l.length)
  | _ => none
theorem len_ok : FnOk B n (.builtin "len") (fn1 lenV) := fn1_ok fun A F s v p q hA S r h => by
  cases p <;> simp only [lenV, reduceCtorEq] at h
  · cases h
    obtain ⟨t, rfl, hx⟩ := rep_str r
    intro Q E hQ
    refine PySem.P.len_str (by rw [len_strOf]; have := lim_fits (okS_iff.mp hx).1; (first | lia | omega)) (hQ _ _ F (.toks S _) ?_)
    rw [len_strOf]
    exact .int _ _
  · exact len_now A F s v _ q hA S (now_of S r) h
noncomputable def onList (h : List V → Option V) : V → Option V
  | .list l => h l
  | _ => none
theorem now_ok {fv : Value} {h : List V → Option V} (k : FnNow B n fv h) : FnOk B n fv (fn1 (onList h)) := fn1_ok fun A F s v p q hA S r e => by
  cases p <;> simp only [onList, reduceCtorEq] at e
  exact k A F s v _ q hA S (now_of S r) e
theorem min2_ok : FnOk B n (.builtin "min") (fn2 (int2 fun a b => some (.int (if b < a then b else a)))) := fn2_ok fun A F s v w p q r hA S rv rw h Q E hQ => by
  obtain ⟨i, j, rfl, rfl, h'⟩ := int2_some h
  obtain ⟨t, rfl⟩ := rep_int rv; obtain ⟨u, rfl⟩ := rep_int rw
  cases h'
  refine min_two_ints hA.handled fun h' tk hk => hQ _ _ F (Next.keeps S hk) ?_
  split <;> exact .int _ _
theorem abs_ok : FnOk B n (.builtin "abs") (fn1 (int1 fun a => some (.int (if a < 0 then -a else a)))) := fn1_ok fun A F s v p q hA S r h Q E hQ => by
  obtain ⟨i, rfl, h'⟩ := int1_some h
  obtain ⟨t, rfl⟩ := rep_int r
  cases h'
  exact call_abs_int fun u tk => hQ _ _ F (.toks S _) (.int _ _)
theorem divmod_ok : FnOk B n (.builtin "divmod") (fn2 (int2 fun a b => if b ≠ 0 ∧ small b = true then some (.tup [.int (a.fdiv b), .int (a.fmod b)]) else none)) := fn2_ok fun A F s v w p q r hA S rv rw h Q E hQ => by
  obtain ⟨i, j, rfl, rfl, h'⟩ := int2_some h
  clear h
  obtain ⟨t, rfl⟩ := rep_int rv; obtain ⟨u, rfl⟩ := rep_int rw
  split at h'
  · rename_i hs
    cases h'
    refine divmod_int hs.1 ?_ (.inl (PyProof.noPylong_of_log2 (by have := small_log2 hs.2; (first | lia | omega))))
    refine hQ _ _ (F.put s.heap.objs.size _) (Next.made (t := s.toks + 1 + 1) S (fun b o e => Heap.get?_push_of_some _ e) (get_size _) (Heap.get?_push_size _ rfl)) ?_
    exact .tup (vs := [.int _ _, .int _ _]) Fz.put_self (.cons (.int _ _) (.cons (.int _ _) .nil)) (by simp [lim])
  · cases h'
/-! lists made anew -/
theorem fresh_push {run : Env → Sem Value} {A : Around} {F : Fz} {s s₁ : Shared} {F₁ : Fz} {vs : List Value} {ps : List V} {k : Nat} {tk : Nat} {Q : Value → Shared → Prop} (N : Next B F s F₁ s₁) (r : Reps F₁ vs ps) (hl : ps.length ≤ lim)
    (hQ : ∀ (v : Value) (s' : Shared) (F' : Fz), Next B F s F' s' → (∃ a vs k, v = .ref a ∧ s.heap.get? a = none ∧ F' a = none ∧ s'.heap.get? a = some ⟨.type "list", none, .seq vs.toArray k, #[]⟩ ∧ Reps F' vs ps ∧ ps.length ≤ lim) → Q v s') :
    Q (.ref s₁.heap.objs.size) { s₁ with heap := s₁.heap.push { cls := .type "list", data := .seq vs.toArray k }, toks := tk } :=
  hQ _ _ F₁ (N.trans (Next.keeps (t := tk) N.st fun b o e => Heap.get?_push_of_some _ e)) ⟨_, vs, k, rfl, N.gone (get_size _), N.st.none (get_size _), Heap.get?_push_size _ rfl, r, hl⟩
theorem FL_disp {es : List Expr} {pos : Pos} {f : El} (h : ArgsR B n xs gs es f) : Fresh B n xs gs (fun env => eval (.List es pos) env) (fun Γ σ => (f Γ σ).bind fun l => if l.length ≤ lim then some l else none) := by
  intro env A F μ Γ σ s p hA S R X hf Q E hQ
  obtain ⟨l, e, hf⟩ := Option.bind_eq_some_iff.mp hf
  split at hf
  · rename_i hl
    cases hf
    refine wpAny_List (h.runs pos env A F μ Γ σ s _ hA S R X e _ E fun vs s₁ F₁ n₁ r₁ => ⟨by rw [r₁.length]; exact lim_size hl, ?_⟩)
    exact fresh_push (run := fun env => eval (.List es pos) env) (A := A) (tk := s₁.toks) n₁ r₁ hl hQ
  · cases hf
theorem E_tup {es : List Expr} {k : Nat} {pos : Pos} {f : El} (h : ArgsR B n xs gs es f) : Evals B n xs gs (fun env => eval (.Tuple es k pos) env) (fun Γ σ => (f Γ σ).bind fun l => if l.length ≤ lim then some (.tup l) else none) := by
  intro env A F μ Γ σ s p hA S R X hf Q E hQ
  obtain ⟨l, e, hf⟩ := Option.bind_eq_some_iff.mp hf
  split at hf
  · rename_i hl
    cases hf
    refine wpAny_Tuple (h.runs pos env A F μ Γ σ s _ hA S R X e _ E fun vs s₁ F₁ n₁ r₁ => ⟨by rw [r₁.length]; exact lim_size hl, ?_⟩)
    have N := Next.made (t := s₁.toks) n₁.st (fun b o e => Heap.get?_push_of_some (Obj.mk (.type "tuple") none (.seq vs.toArray) #[]) e) (get_size _) (Heap.get?_push_size _ rfl)
    exact hQ _ _ _ (n₁.trans N) (.tup Fz.put_self (r₁.mono (Fz.le_put (n₁.st.none (get_size _)))) hl)
  · cases hf
end
end Mine
/-! part 6 -/
namespace Mine
open PySem PySem.Calls PyProof.Rows
section
variable {B : Base} {n : Nat} {xs : Names} {gs : List Str}
/-! one object of the frame's own turns -/
theorem snext_change {Ow : Addr → Prop} {F : Fz} {μ : Mus} {s : Shared} {b : Addr} {h' : Heap} {tk : Nat} (S : St B F s.heap) (hb : Ow b ∨ b ∈ μ.flatten) (hF : F b = none) (ht : b ∉ tabs)
    (k : ∀ a o, a ≠ b → s.heap.get? a = some o → h'.get? a = some o) (hh : ∃ o, h'.get? b = some o) : SNext B Ow F μ s F μ { s with heap := h', toks := tk } where
  shape := ⟨h', tk, rfl⟩
  ext := F.le_refl
  st := S.keeps' (fun a o e e2 => k a o (by rintro rfl; rw [hF] at e; cases e) e2) fun a o hm e2 => k a o (by rintro rfl; exact ht hm) e2
  mu := ⟨[], (List.append_nil _).symm⟩
  keep := fun a o _ h1 h2 e => k a o (by rintro rfl; exact hb.elim h1 h2) e
  new := fun a o e => .inl e
  newμ := fun a h => .inl h
  there := fun a o e => by
    by_cases e2 : a = b
    · subst e2; exact hh
    · exact ⟨o, k a o e2 e⟩
theorem Rd.mut {F : Fz} {μ : Mus} {env : Env} {Γ : Cx} {h h' : Heap} {b : Addr} (R : Rd F μ xs gs env Γ h) (hb : b ∈ μ.flatten) (k : ∀ a o, a ≠ b → h.get? a = some o → h'.get? a = some o) : Rd F μ xs gs env Γ h' where
  glob := R.glob
  bui := R.bui
  fn := R.fn
  len := R.len
  knd := R.knd
  gl := R.gl
  names := R.names
  nodbg := R.nodbg
  apart := R.apart
  locC := R.locC
  locF := R.locF
  celF := R.celF
  has := fun i x q p e1 e2 => (R.has i x q p e1 e2).keeps F.le_refl ⟨[], (List.append_nil _).symm⟩
    (fun _ m hn => ⟨m, hn.at' fun o e => k _ _ (by rintro rfl; exact R.locF.2.2 hb) e, rfl⟩) fun _ c o hc e => k _ _ (by rintro rfl; exact (R.celF x _ hc).2.2 hb) e
  loc := let ⟨m, hn⟩ := R.loc; ⟨m, hn.at' fun o e => k _ _ (by rintro rfl; exact R.locF.2.2 hb) e⟩
  cel := fun x c e => let ⟨v, o, ho, hd⟩ := R.cel x c e; ⟨v, o, k _ _ (by rintro rfl; exact (R.celF x _ e).2.2 hb) ho, hd⟩
theorem Mu.own {F : Fz} {μ : Mus} {σ : AH} {h h' : Heap} {b : Addr} (X : Mu F μ σ h) (hb : b ∉ μ.flatten) (k : ∀ a o, a ≠ b → h.get? a = some o → h'.get? a = some o) : Mu F μ σ h' where
  len := X.len
  at' := fun i fp o e1 e2 => (X.at' i fp o e1 e2).keeps F.le_refl (fun _ _ e => e) fun a ha o e => k a o (by rintro rfl; exact hb (mem_flatten_of e1 ha)) e
  nodup := X.nodup
  notab := X.notab
  there := fun a ha => let ⟨o, e⟩ := X.there a ha; ⟨o, k a o (by rintro rfl; exact hb ha) e⟩
theorem names_inj {i j : Nat} {x : Str} {k k' : Kd} (hn : (xs.map (·.1)).Nodup) (hi : xs[i]? = some (x, k)) (hj : xs[j]? = some (x, k')) : i = j := by
  have h1 : (xs.map (·.1))[i]? = some x := by simp [hi]
  have h2 : (xs.map (·.1))[j]? = some x := by simp [hj]
  obtain ⟨l1, e1⟩ := List.getElem?_eq_some_iff.mp h1
  obtain ⟨l2, e2⟩ := List.getElem?_eq_some_iff.mp h2
  exact (List.getElem_inj hn).mp (e1.trans e2.symm)
/-- a name takes a value -/
theorem store_ok {A : Around} {F : Fz} {μ : Mus} {σ : AH} {env : Env} {Γ : Cx} {s : Shared} {i : Nat} {x : Str} {k : Kd} {v : Value} {p : Sl} {Q : Unit → Shared → Prop} {E : Value → Shared → Prop} (S : St B F s.heap) (R : Rd F μ xs gs env Γ s.heap)
    (X : Mu F μ σ s.heap) (hx : xs[i]? = some (x, k)) (hk : k ≠ .cap) (r : SlRep F μ v p)
    (hQ : ∀ s', SNext B (Own env xs) F μ s F μ s' → Rd F μ xs gs env (Γ.set i p) s'.heap → Mu F μ σ s'.heap → Q () s') : wpAny (model prg B.w) A (storeName env x v) Q E s := by
  have K := R.knd x k (List.mem_of_getElem? hx)
  cases k with
  | cap => exact absurd rfl hk
  | loc =>
    obtain ⟨m, hn⟩ := R.loc
    refine wpAny_storeName_local K hn (fun h' hn' hs' => ?_) (by rw [R.fn]; rfl)
    have kk : ∀ a o, a ≠ env.locals → s.heap.get? a = some o → h'.get? a = some o := fun a o ne e => (hs'.2 a ne).trans e
    refine hQ _ (snext_change S (.inl (.inl rfl)) R.locF.1 R.locF.2.1 kk (let ⟨o, _, _, e, _⟩ := hn'; ⟨o, e⟩)) ?_ (X.own R.locF.2.2 kk)
    exact {
      glob := R.glob, bui := R.bui, fn := R.fn, knd := R.knd, gl := R.gl, names := R.names, nodbg := R.nodbg, apart := R.apart, locC := R.locC, locF := R.locF, celF := R.celF
      len := by rw [List.length_set]; exact R.len
      loc := ⟨_, hn'⟩
      cel := fun y c e => let ⟨v, o, ho, hd⟩ := R.cel y c e; ⟨v, o, kk _ _ (R.locC y c e) ho, hd⟩
      has := fun j y q p' e1 e2 => by
        by_cases hij : i = j
        · subst hij
          rw [hx] at e1; cases e1
          have hlt : i < Γ.length := by rw [R.len]; exact (List.getElem?_eq_some_iff.mp hx).1
          rw [List.getElem?_set_self hlt] at e2; cases e2
          intro _
          rw [if_pos rfl]
          exact ⟨_, v, hn', if_pos rfl, r⟩
        · rw [List.getElem?_set_ne hij] at e2
          have hne : y ≠ x := by rintro rfl; exact hij (names_inj R.names hx e1)
          refine (R.has j y q p' e1 e2).keeps F.le_refl ⟨[], (List.append_nil _).symm⟩ (fun _ m₀ hn₀ => ⟨_, hn', ?_⟩) fun _ c o hc e => kk _ _ (R.locC y c hc) e
          rw [if_neg hne]
          exact hn.agree hn₀ y }
  | own =>
    obtain ⟨K1, c, hc⟩ := K
    obtain ⟨v₀, hv₀⟩ := R.cel x c hc
    refine wpAny_storeName_cell R.fn K1 hc hv₀ fun h' hc' hs' => ?_
    have kk : ∀ a o, a ≠ c → s.heap.get? a = some o → h'.get? a = some o := fun a o ne e => (hs'.2 a ne).trans e
    have F3 := R.celF x c hc
    refine hQ _ (snext_change S (.inl (.inr ⟨x, List.mem_of_getElem? hx, hc⟩)) F3.1 F3.2.1 kk (let ⟨o, e, _⟩ := hc'; ⟨o, e⟩)) ?_ (X.own F3.2.2 kk)
    exact {
      glob := R.glob, bui := R.bui, fn := R.fn, knd := R.knd, gl := R.gl, names := R.names, nodbg := R.nodbg, apart := R.apart, locC := R.locC, locF := R.locF, celF := R.celF
      len := by rw [List.length_set]; exact R.len
      loc := let ⟨m, hn⟩ := R.loc; ⟨m, hn.at' fun o e => kk _ _ (R.locC x c hc).symm e⟩
      cel := fun y d e => by
        by_cases hd : d = c
        · subst hd; exact ⟨_, hc'⟩
        · obtain ⟨v, o, ho, h2⟩ := R.cel y d e; exact ⟨v, o, kk _ _ hd ho, h2⟩
      has := fun j y q p' e1 e2 => by
        by_cases hij : i = j
        · subst hij
          rw [hx] at e1; cases e1
          have hlt : i < Γ.length := by rw [R.len]; exact (List.getElem?_eq_some_iff.mp hx).1
          rw [List.getElem?_set_self hlt] at e2; cases e2
          intro _
          rw [if_neg (by decide)]
          exact ⟨c, v, hc, hc', r⟩
        · rw [List.getElem?_set_ne hij] at e2
          have hne : y ≠ x := by rintro rfl; exact hij (names_inj R.names hx e1)
          refine (R.has j y q p' e1 e2).keeps F.le_refl ⟨[], (List.append_nil _).symm⟩ (fun _ m₀ hn₀ => ⟨m₀, hn₀.at' fun o e => kk _ _ (R.locC x c hc).symm e, rfl⟩) fun _ d o hd e => kk _ _ ?_ e
          rintro rfl; exact hne (R.apart _ _ _ hd hc) }
/-! statements -/
noncomputable abbrev ExecL (B : Base) (n : Nat) (xs : Names) (gs : List Str) (sts : List Stmt) (f : S) : Prop := Execs B n xs gs (fun env => execs sts env) f
noncomputable abbrev Exec1 (B : Base) (n : Nat) (xs : Names) (gs : List Str) (st : Stmt) (f : S) : Prop := Execs B n xs gs (fun env => exec st env) f
noncomputable def xnext : S := fun Γ σ => some (.next, Γ, σ)
noncomputable def xseq (f g : S) : S := fun Γ σ => (f Γ σ).bind fun r => match r.1 with | .next => g r.2.1 r.2.2 | _ => some r
theorem X_nil : ExecL B n xs gs [] xnext := by
  intro env A F μ Γ σ s r hA S R X hf Q E hQ
  cases hf
  exact wpAny_execs_nil (hQ _ s F μ (.refl S) ⟨trivial, R, X⟩)
theorem X_cons {st : Stmt} {rest : List Stmt} {f g : S} (h : Exec1 B n xs gs st f) (hr : ExecL B n xs gs rest g) : ExecL B n xs gs (st :: rest) (xseq f g) := by
  intro env A F μ Γ σ s r hA S R X hf Q E hQ
  obtain ⟨⟨fl, Γ₁, σ₁⟩, e, hf⟩ := Option.bind_eq_some_iff.mp hf
  refine wpAny_execs_cons (h env A F μ Γ σ s _ hA S R X e _ E fun v s₁ F₁ μ₁ n₁ r₁ => ?_)
  obtain ⟨h1, R1, X1⟩ := r₁
  cases fl with
  | next =>
    cases v <;> try exact h1.elim
    exact hr env A F₁ μ₁ Γ₁ σ₁ s₁ r hA n₁.st R1 X1 hf Q E fun v s₂ F₂ μ₂ n₂ r₂ => hQ v s₂ F₂ μ₂ (n₁.trans n₂) r₂
  | brk =>
    cases v <;> try exact h1.elim
    cases hf; exact hQ _ s₁ F₁ μ₁ n₁ ⟨h1, R1, X1⟩
  | cont =>
    cases v <;> try exact h1.elim
    cases hf; exact hQ _ s₁ F₁ μ₁ n₁ ⟨h1, R1, X1⟩
  | ret p =>
    cases v <;> try exact h1.elim
    cases hf; exact hQ _ s₁ F₁ μ₁ n₁ ⟨h1, R1, X1⟩
/-- a statement that is not reached -/
theorem X_no {run : Env → Sem Flow} : Execs B n xs gs run (fun _ _ => none) := fun env A F μ Γ σ s r hA S R X hf => by cases hf
theorem E_no {run : Env → Sem Value} : Evals B n xs gs run (fun _ _ => none) := fun env A F μ Γ σ s r hA S R X hf => by cases hf
noncomputable def xset (i : Nat) (f : E) : S := fun Γ σ => (f Γ σ).map fun v => (.next, Γ.set i (.val v), σ)
theorem X_assign {i : Nat} {x : Str} {k : Kd} {pos' pos : Pos} {value : Expr} {f : E} (hx : xs[i]? = some (x, k)) (hk : k ≠ .cap) (h : Evals B n xs gs (fun env => eval value env) f)
    (hs : ∀ env, swapsWith value (some (.Name x pos')) pos.line env = pure false := by intro _; rfl) : Exec1 B n xs gs (.Assign [.Name x pos'] value pos) (xset i f) := by
  intro env A F μ Γ σ s r hA S R X hf Q E hQ
  obtain ⟨v, e, rfl⟩ := Option.map_eq_some_iff.mp hf
  refine wpAny_Assign_Name (h env A F μ Γ σ s v hA S R X e _ E fun w s₁ F₁ n₁ r₁ => ?_) (hs env)
  exact store_ok n₁.st (R.next n₁) (X.next n₁) hx hk (p := .val v) r₁ fun s₂ n₂ R₂ X₂ => hQ _ s₂ F₁ μ (n₁.toS.trans n₂) ⟨trivial, R₂, X₂⟩
noncomputable def xset2 (i j : Nat) (f : E) : S := fun Γ σ => (f Γ σ).map fun v => (.next, (Γ.set i (.val v)).set j (.val v), σ)
theorem X_assign2 {i j : Nat} {x y : Str} {k k' : Kd} {px py pos : Pos} {value : Expr} {f : E} (hx : xs[i]? = some (x, k)) (hk : k ≠ .cap) (hy : xs[j]? = some (y, k')) (hk' : k' ≠ .cap) (h : Evals B n xs gs (fun env => eval value env) f) :
    Exec1 B n xs gs (.Assign [.Name x px, .Name y py] value pos) (xset2 i j f) := by
  intro env A F μ Γ σ s r hA S R X hf Q E hQ
  obtain ⟨v, e, rfl⟩ := Option.map_eq_some_iff.mp hf
  refine wpAny_Assign_two (h env A F μ Γ σ s v hA S R X e _ E fun w s₁ F₁ n₁ r₁ => ?_)
  refine wpAny_assign_Name (store_ok n₁.st (R.next n₁) (X.next n₁) hx hk (p := .val v) r₁ fun s₂ n₂ R₂ X₂ => ?_)
  exact wpAny_assign_Name (store_ok n₂.st R₂ X₂ hy hk' (p := .val v) r₁ fun s₃ n₃ R₃ X₃ => hQ _ s₃ F₁ μ ((n₁.toS.trans n₂).trans n₃) ⟨trivial, R₃, X₃⟩)
noncomputable def xset3 (i j l : Nat) (f : E) : S := fun Γ σ => (f Γ σ).map fun v => (.next, ((Γ.set i (.val v)).set j (.val v)).set l (.val v), σ)
theorem X_assign3 {i j l : Nat} {x y z : Str} {k k' k'' : Kd} {px py pz pos : Pos} {value : Expr} {f : E} (hx : xs[i]? = some (x, k)) (hk : k ≠ .cap) (hy : xs[j]? = some (y, k')) (hk' : k' ≠ .cap) (hz : xs[l]? = some (z, k'')) (hk'' : k'' ≠ .cap)
    (h : Evals B n xs gs (fun env => eval value env) f) : Exec1 B n xs gs (.Assign [.Name x px, .Name y py, .Name z pz] value pos) (xset3 i j l f) := by
  intro env A F μ Γ σ s r hA S R X hf Q E hQ
  obtain ⟨v, e, rfl⟩ := Option.map_eq_some_iff.mp hf
  refine wpAny_Assign_three (h env A F μ Γ σ s v hA S R X e _ E fun w s₁ F₁ n₁ r₁ => ?_)
  refine wpAny_assign_Name (store_ok n₁.st (R.next n₁) (X.next n₁) hx hk (p := .val v) r₁ fun s₂ n₂ R₂ X₂ => ?_)
  refine wpAny_assign_Name (store_ok n₂.st R₂ X₂ hy hk' (p := .val v) r₁ fun s₃ n₃ R₃ X₃ => ?_)
  exact wpAny_assign_Name (store_ok n₃.st R₃ X₃ hz hk'' (p := .val v) r₁ fun s₄ n₄ R₄ X₄ => hQ _ s₄ F₁ μ (((n₁.toS.trans n₂).trans n₃).trans n₄) ⟨trivial, R₄, X₄⟩)
noncomputable def xret (f : E) : S := fun Γ σ => (f Γ σ).map fun v => (.ret v, Γ, σ)
theorem X_ret {e : Expr} {pos : Pos} {f : E} (h : Evals B n xs gs (fun env => eval e env) f) : Exec1 B n xs gs (.Return (some e) pos) (xret f) := by
  intro env A F μ Γ σ s r hA S R X hf Q E hQ
  obtain ⟨v, e, rfl⟩ := Option.map_eq_some_iff.mp hf
  exact wpAny_Return_some (h env A F μ Γ σ s v hA S R X e _ E fun w s₁ F₁ n₁ r₁ => hQ _ s₁ F₁ μ n₁.toS ⟨r₁, R.next n₁, X.next n₁⟩)
theorem X_retN {pos : Pos} : Exec1 B n xs gs (.Return none pos) (fun Γ σ => some (.ret .none, Γ, σ)) := by
  intro env A F μ Γ σ s r hA S R X hf Q E hQ
  cases hf
  exact wpAny_Return_none (hQ _ s F μ (.refl S) ⟨.none, R, X⟩)
theorem X_brk {pos : Pos} : Exec1 B n xs gs (.Break pos) (fun Γ σ => some (.brk, Γ, σ)) := by
  intro env A F μ Γ σ s r hA S R X hf Q E hQ
  cases hf
  exact wpAny_Break (hQ _ s F μ (.refl S) ⟨trivial, R, X⟩)
noncomputable def xif (t : Et) (f g : S) : S := fun Γ σ => (t Γ σ).bind fun b => if b then f Γ σ else g Γ σ
theorem X_if {test : Expr} {body orelse : List Stmt} {pos : Pos} {t : Et} {f g : S} (ht : Tests B n xs gs (fun env => isTrue test env (eval test env)) t) (hb : ExecL B n xs gs body f) (ho : ExecL B n xs gs orelse g) :
    Exec1 B n xs gs (.If test body orelse pos) (xif t f g) := by
  intro env A F μ Γ σ s r hA S R X hf Q E hQ
  obtain ⟨b, e, hf⟩ := Option.bind_eq_some_iff.mp hf
  refine wpAny_If (ht env A F μ Γ σ s b hA S R X e _ E fun c s₁ F₁ n₁ r₁ => ?_)
  subst r₁
  cases c with
  | true => exact hb env A F₁ μ Γ σ s₁ r hA n₁.st (R.next n₁) (X.next n₁) hf Q E fun v s₂ F₂ μ₂ n₂ r₂ => hQ v s₂ F₂ μ₂ (n₁.toS.trans n₂) r₂
  | false => exact ho env A F₁ μ Γ σ s₁ r hA n₁.st (R.next n₁) (X.next n₁) hf Q E fun v s₂ F₂ μ₂ n₂ r₂ => hQ v s₂ F₂ μ₂ (n₁.toS.trans n₂) r₂
noncomputable def pwhile (t : Et) (f : S) : Nat → S
  | 0 => fun _ _ => none
  | k + 1 => fun Γ σ => (t Γ σ).bind fun b => if b then (f Γ σ).bind fun r => match r.1 with
      | .next => pwhile t f k r.2.1 r.2.2
      | .cont => pwhile t f k r.2.1 r.2.2
      | .brk => some (.next, r.2.1, r.2.2)
      | .ret v => some (.ret v, r.2.1, r.2.2)
    else some (.next, Γ, σ)
theorem mark_none {A : Around} (h : A.handled = none) : A.mark none = A := by
  obtain ⟨a, b, c, d, e⟩ := A
  cases h; rfl
theorem X_while {N : Nat} {test : Expr} {body : List Stmt} {pos : Pos} {t : Et} {f : S} (ht : Tests B n xs gs (fun env => isTrue test env (eval test env)) t) (hb : ExecL B n xs gs body f) :
    Exec1 B n xs gs (.While test body [] pos) (pwhile t f N) := by
  intro env A F μ Γ σ s r hA S R X hf Q E hQ
  refine wpAny_While (codeAny_whileLoop (fun k s' => ∃ F' μ' Γ' σ', SNext B (Own env xs) F μ s F' μ' s' ∧ Rd F' μ' xs gs env Γ' s'.heap ∧ Mu F' μ' σ' s'.heap ∧ pwhile t f k Γ' σ' = some r) ?_ N ⟨F, μ, Γ, σ, .refl S, R, X, hf⟩)
  rintro k s₁ ⟨F₁, μ₁, Γ₁, σ₁, n₁, R₁, X₁, h₁⟩
  cases k with
  | zero => cases h₁
  | succ k =>
    obtain ⟨b, e, h₁⟩ := Option.bind_eq_some_iff.mp h₁
    refine ht env A F₁ μ₁ Γ₁ σ₁ s₁ b hA n₁.st R₁ X₁ e _ _ fun c s₂ F₂ n₂ r₂ => ?_
    subst r₂
    cases c with
    | false =>
      cases h₁
      exact wpAny_execs_nil (hQ _ s₂ F₂ μ₁ (n₁.trans n₂.toS) ⟨trivial, R₁.next n₂, X₁.next n₂⟩)
    | true =>
      obtain ⟨⟨fl, Γ₃, σ₃⟩, e₃, h₁⟩ := Option.bind_eq_some_iff.mp h₁
      refine hb env A F₂ μ₁ Γ₁ σ₁ s₂ _ hA n₂.st (R₁.next n₂) (X₁.next n₂) e₃ _ _ fun v s₃ F₃ μ₃ n₃ r₃ => ?_
      obtain ⟨q, R₃, X₃⟩ := r₃
      have N := (n₁.trans n₂.toS).trans n₃
      cases fl with
      | next => cases v <;> try exact q.elim
                exact ⟨k, Nat.lt_succ_self k, F₃, μ₃, Γ₃, σ₃, N, R₃, X₃, h₁⟩
      | cont => cases v <;> try exact q.elim
                exact ⟨k, Nat.lt_succ_self k, F₃, μ₃, Γ₃, σ₃, N, R₃, X₃, h₁⟩
      | brk => cases v <;> try exact q.elim
               cases h₁; exact hQ _ s₃ F₃ μ₃ N ⟨trivial, R₃, X₃⟩
      | ret p => cases v <;> try exact q.elim
                 cases h₁; exact hQ _ s₃ F₃ μ₃ N ⟨q, R₃, X₃⟩
end
end Mine
/-! part 7 -/
namespace Mine
open PySem PySem.Calls PyProof.Rows
/-- an iterator made since s, at its start, over l -/
noncomputable def IterAt (B : Base) (F : Fz) (s s' : Shared) (it : Value) (l : List V) : Prop :=
  ∃ (I : Addr) (fp : List Addr) (P : Nat → Value → Prop) (T : Nat → Heap → Prop), it = .ref I ∧ (∀ A : Around, A.handled = none → Walks prg B.w A I fp [I] l.length P T) ∧ T 0 s'.heap ∧ s.heap.get? I = none ∧ F I = none ∧
    (∀ i h, T i h → ∃ o, h.get? I = some o) ∧ (∀ b ∈ fp, b = I ∨ ∃ o, F b = some o) ∧ (∀ i v, i < l.length → P i v → ∃ p, l[i]? = some p ∧ Rep F v p)
noncomputable def Iters (B : Base) (n : Nat) (xs : Names) (gs : List Str) (e : Expr) (f : El) : Prop :=
  ∀ env A F μ Γ σ s l, AOk n A → St B F s.heap → Rd F μ xs gs env Γ s.heap → Mu F μ σ s.heap → f Γ σ = some l → ∀ (Q : Value → Shared → Prop) (E : Value → Shared → Prop),
    (∀ it s' F', Next B F s F' s' → IterAt B F' s s' it l → Q it s') → wpAny (model prg B.w) A (eval e env) (fun x s₁ => wpAny (model prg B.w) A (pyIter x) Q E s₁) E s
section
variable {B : Base} {n : Nat} {xs : Names} {gs : List Str}
theorem It_up {m : Nat} {e : Expr} {f : El} (h : Iters B n xs gs e f) (hm : n ≤ m) : Iters B m xs gs e f := fun env A F μ Γ σ s p hA => h env A F μ Γ σ s p (hA.mono hm)
theorem iterAt_list {F : Fz} {s s' : Shared} {I a : Addr} {vs : List Value} {k : Nat} {l : List V} (e1 : F a = some ⟨.type "list", none, .seq vs.toArray k, #[]⟩) (hl : s'.heap.IsList a vs.toArray) (hI : s'.heap.IsListIter I a 0) (hne : a ≠ I)
    (r : Reps F vs l) (h1 : s.heap.get? I = none) (h2 : F I = none) : IterAt B F s s' (.ref I) l :=
  ⟨I, [I, a], fun i v => (vs.toArray)[i]? = some v, fun i h => h.IsListIter I a i ∧ h.IsList a vs.toArray, rfl, fun A' hh => by
      have W := Walks.list (prog := prg) (w := B.w) (A := A') hh I a hne vs.toArray
      rw [List.size_toArray, r.length] at W
      exact W, ⟨hI, hl⟩, h1, h2, (fun i h st => let ⟨o, e, _⟩ := st.1; ⟨o, e⟩), (fun b hb => (List.mem_cons.mp hb).elim .inl fun hb => .inr ⟨_, (List.mem_singleton.mp hb) ▸ e1⟩), fun i v _ hv => by
      obtain ⟨p, h1, h2⟩ := r.get (i := i) (by simpa using hv)
      exact ⟨p, h1, h2⟩⟩
theorem It_list {e : Expr} {f : E} (h : Evals B n xs gs (fun env => eval e env) f) : Iters B n xs gs e (pl f) := by
  intro env A F μ Γ σ s l hA S R X hf Q E hQ
  unfold pl at hf
  split at hf
  · rename_i l' e'
    cases hf
    refine h env A F μ Γ σ s _ hA S R X e' _ E fun v s₁ F₁ n₁ r₁ => ?_
    cases r₁ with
    | @list a vs k _ e1 r hl =>
      have hg := n₁.st.sub _ _ e1
      have hlt : a ≠ s₁.heap.objs.size := Nat.ne_of_lt (Heap.lt_size hg)
      have N := n₁.trans (Next.keeps (t := s₁.toks) n₁.st fun b o e => Heap.get?_push_of_some { cls := .type "list_iterator", data := .fields #[.ref a, .int 0 0] } e)
      exact wpAny_pyIter_list (isList_of hg) (hQ _ _ F₁ N (iterAt_list e1 ((isList_of hg).push _) ⟨_, Heap.get?_push_size _ rfl, rfl, rfl⟩ hlt r (n₁.gone (get_size _)) (n₁.st.none (get_size _))))
  · cases hf
theorem iterAt_str {F : Fz} {s s' : Shared} {I : Addr} {x : List Nat} {t : Tok} (hx : okS x = true) (hI : s'.heap.IsStrIter I "str_ascii_iterator" (strOf x) t 0) (h1 : s.heap.get? I = none) (h2 : F I = none) :
    IterAt B F s s' (.ref I) (x.map fun c => V.str [c]) :=
  ⟨I, [I], SignAt (strOf x), fun i h => h.IsStrIter I "str_ascii_iterator" (strOf x) t i, rfl, fun A' hh => by
      have W := Walks.strAscii (prog := prg) (w := B.w) (A := A') hh I (strOf x) t
      simpa [strOf] using W, hI, h1, h2, (fun i h st => let ⟨o, e, _⟩ := st; ⟨o, e⟩), fun b hb => .inl (by simpa using hb), fun i v _ hv => by
      obtain ⟨c, u, e1, rfl⟩ := hv
      have e2 : x[i]? = some c := by simpa [strOf] using e1
      exact ⟨.str [c], by simp [e2], .str [c] u (okS_iff.mpr ⟨by simp [lim], by simpa using (okS_iff.mp hx).2 c (List.mem_of_getElem? e2)⟩)⟩⟩
theorem It_str {e : Expr} {f : E} (h : Evals B n xs gs (fun env => eval e env) f) : Iters B n xs gs e (fun Γ σ => (pstr f Γ σ).map fun x => x.map fun c => V.str [c]) := by
  intro env A F μ Γ σ s l hA S R X hf Q E hQ
  obtain ⟨x, ex, rfl⟩ := Option.map_eq_some_iff.mp hf
  have ev : f Γ σ = some (.str x) := by
    unfold pstr at ex
    split at ex
    · cases ex; assumption
    · cases ex
  refine h env A F μ Γ σ s _ hA S R X ev _ E fun v s₁ F₁ n₁ r₁ => ?_
  cases r₁
  rename_i t hx
  have ha : (strOf x).cps.all (· < 128) = true := by
    simp only [strOf, List.all_toArray, List.all_eq_true, decide_eq_true_eq]
    exact (okS_iff.mp hx).2
  have N := n₁.trans (Next.keeps (t := s₁.toks) n₁.st fun b o e => Heap.get?_push_of_some { cls := .type "str_ascii_iterator", data := .fields #[.str (strOf x) t, .int 0 0] } e)
  exact wpAny_pyIter_ascii ha (hQ _ _ F₁ N (iterAt_str hx ⟨_, Heap.get?_push_size _ rfl, rfl, rfl⟩ (n₁.gone (get_size _)) (n₁.st.none (get_size _))))
noncomputable def rng (a b : Int) : List V := (List.range (b - a).toNat).map fun k => V.int (a + (k : Nat))
theorem rng_length (a b : Int) : (rng a b).length = (b - a).toNat := by simp [rng]
noncomputable def okR (a b : Int) : Bool := decide (-1152921504606846976 ≤ a) && decide (a ≤ 1152921504606846976) && decide (-1152921504606846976 ≤ b) && decide (b ≤ 1152921504606846976)
theorem okR_small {a b : Int} (h : okR a b = true) : Builtin.Range.small a b 1 = true := by
  simp only [okR, Bool.and_eq_true, decide_eq_true_eq] at h
  exact small_one (by (first | lia | omega)) (by (first | lia | omega)) (by (first | lia | omega)) (by (first | lia | omega))
theorem iterAt_range {F : Fz} {s s' : Shared} {I : Addr} {a b : Int} (hI : IsRangeIter s'.heap I a (Builtin.Range.rangeSize a b 1) 1) (h1 : s.heap.get? I = none) (h2 : F I = none) :
    IterAt B F s s' (.ref I) (rng a b) :=
  ⟨I, [I], fun i v => ∃ t, v = .int (a + (i : Nat) * 1) t, fun i h => IsRangeIter h I (a + (i : Nat) * 1) (((b - a).toNat : Int) - (i : Nat)) 1, rfl, fun A' hh => by
      have W := Walks.range (prog := prg) (w := B.w) (A := A') hh I a 1 (b - a).toNat
      rw [rng_length]
      exact W, by
      have e : Builtin.Range.rangeSize a b 1 = (((b - a).toNat : Int) - ((0 : Nat) : Int)) := by rw [rangeSize_one]; split <;> (first | lia | omega)
      have e1 : a + ((0 : Nat) : Int) * 1 = a := by (first | lia | omega)
      show IsRangeIter _ _ _ _ _
      rw [e1, ← e]
      exact hI, h1, h2, fun i h st => ⟨_, st⟩, fun b' hb' => .inl (by simpa using hb'), fun i w hi hw => by
      obtain ⟨t', rfl⟩ := hw
      rw [rng_length] at hi
      exact ⟨.int (a + (i : Nat)), by simp [rng, hi], by simpa using Rep.int _ _⟩⟩
theorem iter_range {A : Around} {F F₁ : Fz} {s s₁ : Shared} {a b : Int} {t u v : Tok} {tk : Nat} {Q : Value → Shared → Prop} {E : Value → Shared → Prop} (N : Next B F s F₁ s₁) (hr : okR a b = true)
    (hQ : ∀ it s' F', Next B F s F' s' → IterAt B F' s s' it (rng a b) → Q it s') :
    wpAny (model prg B.w) A (pyIter (.ref s₁.heap.objs.size)) Q E { s₁ with heap := s₁.heap.push { cls := .type "range", data := .fields #[.int a t, .int b u, .int 1 v] }, toks := tk } := by
  have k1 : ∀ b' o, s₁.heap.get? b' = some o → (s₁.heap.push { cls := .type "range", data := .fields #[.int a t, .int b u, .int 1 v] }).get? b' = some o := fun b' o e => Heap.get?_push_of_some _ e
  have hn : s₁.heap.get? (s₁.heap.push { cls := .type "range", data := .fields #[.int a t, .int b u, .int 1 v] }).objs.size = none := get_ge (by rw [Heap.size_push]; exact Nat.le_succ _)
  refine wpAny_pyIter_range (IsRange.new ..) (okR_small hr) ?_
  exact hQ _ _ F₁ (N.trans (Next.keeps (t := tk) N.st fun b' o e => Heap.get?_push_of_some _ (k1 b' o e))) (iterAt_range (Heap.get?_push_size _ rfl) (N.gone hn) (N.st.none hn))
theorem It_range1 {p pos : Pos} {e : Expr} {f : E} (hx : Str.ofString "range" ∈ gs) (hg : Glob B (Str.ofString "range") (.type "range")) (h : Evals B n xs gs (fun env => eval e env) f) (he : ∀ env, starEach [e] env = [(false, eval e env)] := by intro _; rfl) :
    Iters B n xs gs (.Call (.Name (Str.ofString "range") p) [e] [] pos) (fun Γ σ => (f Γ σ).bind fun v => match v with | .int b => if okR 0 b then some (rng 0 b) else none | _ => none) := by
  intro env A F μ Γ σ s l hA S R X hf Q E hQ
  obtain ⟨v, ev, hf⟩ := Option.bind_eq_some_iff.mp hf
  have hf2 : ∃ b, v = .int b ∧ (if okR 0 b then some (rng 0 b) else none) = some l := by
    cases v <;> first | exact ⟨_, rfl, hf⟩ | cases hf
  clear hf
  obtain ⟨b, rfl, hf⟩ := hf2
  split at hf
  · rename_i hr
    cases hf
    show wpAny (model prg B.w) A (do callWith pos (← eval (.Name _ p) env) [] (backTo pos (starEach [e] env)) (backToKw pos (keywordEach [] env))) _ E s
    refine wpAny_bind (hg A F env s p _ E S R.glob R.bui R.fn (R.gl _ hx) ?_)
    refine callWith_any (by rw [he]; rfl) ?_
    refine wpAny_items_cons (h env A F μ Γ σ s _ hA S R X ev _ E fun v s₁ F₁ n₁ r₁ => wpAny_items_nil ?_) (he env)
    refine Keep.type A F₁ s₁ _ E n₁.st fun k => ⟨rfl, ?_⟩
    obtain ⟨t, rfl⟩ := rep_int r₁
    exact call_range_1 (iter_range n₁ hr hQ)
  · cases hf
theorem It_range2 {p pos : Pos} {e e' : Expr} {f g : E} (hx : Str.ofString "range" ∈ gs) (hg : Glob B (Str.ofString "range") (.type "range")) (h : Evals B n xs gs (fun env => eval e env) f) (h' : Evals B n xs gs (fun env => eval e' env) g)
    (he : ∀ env, starEach [e, e'] env = (false, eval e env) :: starEach [e'] env := by intro _; rfl) (he' : ∀ env, starEach [e'] env = [(false, eval e' env)] := by intro _; rfl) :
    Iters B n xs gs (.Call (.Name (Str.ofString "range") p) [e, e'] [] pos) (fun Γ σ => (f Γ σ).bind fun v => (g Γ σ).bind fun w => match v, w with | .int a, .int b => if okR a b then some (rng a b) else none | _, _ => none) := by
  intro env A F μ Γ σ s l hA S R X hf Q E hQ
  obtain ⟨v, ev, hf⟩ := Option.bind_eq_some_iff.mp hf
  obtain ⟨w, ew, hf⟩ := Option.bind_eq_some_iff.mp hf
  have hf2 : ∃ a b, v = .int a ∧ w = .int b ∧ (if okR a b then some (rng a b) else none) = some l := by
    split at hf
    · exact ⟨_, _, rfl, rfl, hf⟩
    · cases hf
  clear hf
  obtain ⟨a, b, rfl, rfl, hf⟩ := hf2
  split at hf
  · rename_i hr
    cases hf
    show wpAny (model prg B.w) A (do callWith pos (← eval (.Name _ p) env) [] (backTo pos (starEach [e, e'] env)) (backToKw pos (keywordEach [] env))) _ E s
    refine wpAny_bind (hg A F env s p _ E S R.glob R.bui R.fn (R.gl _ hx) ?_)
    refine callWith_any (by rw [he, he']; rfl) ?_
    refine wpAny_items_cons (h env A F μ Γ σ s _ hA S R X ev _ E fun v s₁ F₁ n₁ r₁ => ?_) (he env)
    refine wpAny_items_cons (h' env A F₁ μ Γ σ s₁ _ hA n₁.st (R.next n₁) (X.next n₁) ew _ E fun w s₂ F₂ n₂ r₂ => wpAny_items_nil ?_) (he' env)
    refine Keep.type A F₂ s₂ _ E n₂.st fun k => ⟨rfl, ?_⟩
    obtain ⟨t, rfl⟩ := rep_int r₁
    obtain ⟨u, rfl⟩ := rep_int r₂
    exact call_range_2 (iter_range (n₁.trans n₂) hr hQ)
  · cases hf
theorem iterAt_rev {F : Fz} {s s' : Shared} {I a : Addr} {vs : List Value} {k : Nat} {l : List V} (e1 : F a = some ⟨.type "list", none, .seq vs.toArray k, #[]⟩) (hl : s'.heap.IsList a vs.toArray) (hI : s'.heap.IsRevIter I a ((vs.toArray.size : Int) - 1)) (hne : a ≠ I)
    (r : Reps F vs l) (h1 : s.heap.get? I = none) (h2 : F I = none) : IterAt B F s s' (.ref I) l.reverse :=
  ⟨I, [I, a], fun i v => vs.toArray[vs.toArray.size - 1 - i]? = some v, fun i h => i ≤ vs.toArray.size ∧ h.IsRevIter I a ((vs.toArray.size : Int) - 1 - (i : Int)) ∧ h.IsList a vs.toArray, rfl, fun A' hh => by
      have W := Walks.listRev (prog := prg) (w := B.w) (A := A') hh I a hne vs.toArray
      have e : vs.toArray.size = l.reverse.length := by rw [List.size_toArray, r.length, List.length_reverse]
      rw [← e]
      exact W, ⟨Nat.zero_le _, by simpa using hI, hl⟩, h1, h2, (fun i h st => let ⟨o, e, _⟩ := st.2.1; ⟨o, e⟩), (fun b hb => (List.mem_cons.mp hb).elim .inl fun hb => .inr ⟨_, (List.mem_singleton.mp hb) ▸ e1⟩), fun i v hi hv => by
      rw [List.length_reverse] at hi
      have hv' : vs[vs.length - 1 - i]? = some v := by simpa using hv
      obtain ⟨p, h1, h2⟩ := r.get hv'
      refine ⟨p, ?_, h2⟩
      rw [List.getElem?_reverse hi, ← r.length]
      exact h1⟩
theorem It_rev {p pos : Pos} {e : Expr} {f : E} (hx : Str.ofString "reversed" ∈ gs) (hg : Glob B (Str.ofString "reversed") (.type "reversed")) (h : Evals B n xs gs (fun env => eval e env) f) (he : ∀ env, starEach [e] env = [(false, eval e env)] := by intro _; rfl) :
    Iters B n xs gs (.Call (.Name (Str.ofString "reversed") p) [e] [] pos) (fun Γ σ => (pl f Γ σ).map List.reverse) := by
  intro env A F μ Γ σ s l hA S R X hf Q E hQ
  obtain ⟨l', el, rfl⟩ := Option.map_eq_some_iff.mp hf
  have ev : f Γ σ = some (.list l') := by
    unfold pl at el
    split at el
    · cases el; assumption
    · cases el
  show wpAny (model prg B.w) A (do callWith pos (← eval (.Name _ p) env) [] (backTo pos (starEach [e] env)) (backToKw pos (keywordEach [] env))) _ E s
  refine wpAny_bind (hg A F env s p _ E S R.glob R.bui R.fn (R.gl _ hx) ?_)
  refine callWith_any (by rw [he]; rfl) ?_
  refine wpAny_items_cons (h env A F μ Γ σ s _ hA S R X ev _ E fun v s₁ F₁ n₁ r₁ => wpAny_items_nil ?_) (he env)
  refine Keep.type A F₁ s₁ _ E n₁.st fun k => ⟨rfl, ?_⟩
  cases r₁ with
  | @list a vs k _ e1 r hl =>
    have hg' := n₁.st.sub _ _ e1
    have hlt : a ≠ s₁.heap.objs.size := Nat.ne_of_lt (Heap.lt_size hg')
    have N := n₁.trans (Next.keeps (t := s₁.toks) n₁.st fun b o e => Heap.get?_push_of_some (revObj a (((vs.toArray).size : Int) - 1)) e)
    refine call_reversed_list (isList_of hg') ?_
    have hI : (s₁.heap.push (revObj a (((vs.toArray).size : Int) - 1))).IsRevIter s₁.heap.objs.size a ((vs.toArray.size : Int) - 1) := ⟨_, Heap.get?_push_size _ rfl, rfl, rfl⟩
    exact wpAny_pyIter_revIter hI (hQ _ _ F₁ N (iterAt_rev e1 ((isList_of hg').push _) hI hlt r (n₁.gone (get_size _)) (n₁.st.none (get_size _))))
end
end Mine
/-! part 8 -/
namespace Mine
open PySem PySem.Calls PyProof.Rows
section
variable {B : Base} {n : Nat} {xs : Names} {gs : List Str}
theorem SNext.wider {Ow Ow' : Addr → Prop} {F F' : Fz} {μ μ' : Mus} {s s' : Shared} (h : SNext B Ow F μ s F' μ' s') (hw : ∀ a, Ow a → Ow' a) : SNext B Ow' F μ s F' μ' s' :=
  ⟨h.shape, h.ext, h.st, h.mu, fun b o h1 h2 h3 e => h.keep b o h1 (fun q => h2 (hw b q)) h3 e, h.new, h.newμ, h.there⟩
/-- an object made since s turns -/
theorem SNext.fresh {Ow : Addr → Prop} {F F₁ : Fz} {μ μ₁ : Mus} {s s₁ : Shared} (N : SNext B Ow F μ s F₁ μ₁ s₁) {I : Addr} {h' : Heap} {tk : Nat} (hI : s.heap.get? I = none) (hF : F₁ I = none) (ht : I ∉ tabs)
    (k : ∀ b o, b ≠ I → s₁.heap.get? b = some o → h'.get? b = some o) : SNext B Ow F μ s F₁ μ₁ { s₁ with heap := h', toks := tk } := by
  obtain ⟨h1, t1, rfl⟩ := N.shape
  refine ⟨⟨h', tk, rfl⟩, N.ext, N.st.keeps' (fun b o e e2 => k b o (by rintro rfl; rw [hF] at e; cases e) e2) (fun b o hm e2 => k b o (by rintro rfl; exact ht hm) e2), N.mu, fun b o h1 h2 h3 e => ?_, N.new, N.newμ, fun b o e => ?_⟩
  · exact k b o (by rintro rfl; rw [hI] at e; cases e) (N.keep b o h1 h2 h3 e)
  · obtain ⟨o', e'⟩ := N.there b o e
    exact ⟨o', k b o' (by rintro rfl; rw [hI] at e; cases e) e'⟩
theorem Rd.other {F F₁ : Fz} {μ μ₁ : Mus} {env : Env} {Γ Γ₁ : Cx} {h h₁ h' : Heap} {I : Addr} (R : Rd F μ xs gs env Γ h) (R₁ : Rd F₁ μ₁ xs gs env Γ₁ h₁) (hI : h.get? I = none) (k : ∀ b o, b ≠ I → h₁.get? b = some o → h'.get? b = some o) :
    Rd F₁ μ₁ xs gs env Γ₁ h' := by
  have hl : env.locals ≠ I := by rintro rfl; obtain ⟨m, o, _, _, e, _⟩ := R.loc; rw [hI] at e; cases e
  have hc : ∀ x c, env.cells.lookup x = some c → c ≠ I := by rintro x c e rfl; obtain ⟨v, o, e2, _⟩ := R.cel x _ e; rw [hI] at e2; cases e2
  exact {
    glob := R₁.glob, bui := R₁.bui, fn := R₁.fn, len := R₁.len, knd := R₁.knd, gl := R₁.gl, names := R₁.names, nodbg := R₁.nodbg, apart := R₁.apart, locC := R₁.locC, locF := R₁.locF, celF := R₁.celF
    has := fun i x q p e1 e2 => (R₁.has i x q p e1 e2).keeps F₁.le_refl ⟨[], (List.append_nil _).symm⟩ (fun _ m hn => ⟨m, hn.at' fun o e => k _ _ hl e, rfl⟩) fun _ c o e3 e => k _ _ (hc x c e3) e
    loc := let ⟨m, hn⟩ := R₁.loc; ⟨m, hn.at' fun o e => k _ _ hl e⟩
    cel := fun x c e => let ⟨v, o, ho, hd⟩ := R₁.cel x c e; ⟨v, o, k _ _ (hc x c e) ho, hd⟩ }
/-- a loop under way: its iterator stands at place j -/
structure Walking (B : Base) (F : Fz) (μ : Mus) (Ow : Addr → Prop) (h : Heap) (I : Addr) (fp : List Addr) (T : Nat → Heap → Prop) (j : Nat) : Prop where
  at' : T j h
  fz : F I = none
  out : I ∉ tabs ∧ ¬ Ow I ∧ I ∉ μ.flatten
  foot : ∀ b ∈ fp, b = I ∨ ∃ o, F b = some o
  live : ∀ i h, T i h → ∃ o, h.get? I = some o
theorem Walking.step {Ow : Addr → Prop} {F F' : Fz} {μ μ' : Mus} {s s' : Shared} {I : Addr} {fp : List Addr} {T : Nat → Heap → Prop} {j : Nat} (S : St B F s.heap) (x : Walking B F μ Ow s.heap I fp T j) (N : SNext B Ow F μ s F' μ' s')
    (hT : ∀ i h h', T i h → (∀ b ∈ fp, ∀ o, h.get? b = some o → h'.get? b = some o) → T i h') : Walking B F' μ' Ow s'.heap I fp T j := by
  obtain ⟨o, ho⟩ := x.live _ _ x.at'
  have kI : ∀ o, s.heap.get? I = some o → s'.heap.get? I = some o := fun o e => N.keep I o x.out.1 x.out.2.1 x.out.2.2 e
  refine ⟨hT j _ _ x.at' fun b hb o e => ?_, ?_, ⟨x.out.1, x.out.2.1, fun hm => ?_⟩, fun b hb => (x.foot b hb).imp id fun ⟨o, e⟩ => ⟨o, N.ext _ _ e⟩, x.live⟩
  · rcases x.foot b hb with rfl | ⟨o', e'⟩
    · exact kI o e
    · have := S.sub b o' e'
      rw [e] at this; cases this
      exact N.st.sub b o (N.ext _ _ e')
  · cases q : F' I with
    | none => rfl
    | some o' =>
      rcases N.new I o' q with e | e | e
      · rw [x.fz] at e; cases e
      · rw [e] at ho; cases ho
      · exact absurd e x.out.2.2
  · rcases N.newμ I hm with e | e
    · exact x.out.2.2 e
    · rw [e] at ho; cases ho
theorem Walking.start {Ow : Addr → Prop} {F F' : Fz} {μ : Mus} {s s' : Shared} {it : Value} {l : List V} (S : St B F s.heap) (N : Next B F s F' s') (hOw : ∀ a, Ow a → ∃ o, s.heap.get? a = some o) (hμ : ∀ a ∈ μ.flatten, ∃ o, s.heap.get? a = some o) (x : IterAt B F' s s' it l) :
    ∃ I fp P T, it = .ref I ∧ (∀ A : Around, A.handled = none → Walks prg B.w A I fp [I] l.length P T) ∧ s.heap.get? I = none ∧ Walking B F' μ Ow s'.heap I fp T 0 ∧ ∀ i v, i < l.length → P i v → ∃ p, l[i]? = some p ∧ Rep F' v p := by
  obtain ⟨I, fp, P, T, rfl, W, h0, h1, h2, h3, h4, h5⟩ := x
  refine ⟨I, fp, P, T, rfl, W, h1, ⟨h0, h2, ⟨S.notTab h1, fun h => ?_, fun h => ?_⟩, h4, h3⟩, h5⟩
  · obtain ⟨o, e⟩ := hOw I h; rw [h1] at e; cases e
  · obtain ⟨o, e⟩ := hμ I h; rw [h1] at e; cases e
theorem Rd.ownThere {F : Fz} {μ : Mus} {env : Env} {Γ : Cx} {h : Heap} (R : Rd F μ xs gs env Γ h) : ∀ a, Own env xs a → ∃ o, h.get? a = some o := by
  rintro a (rfl | ⟨x, _, e⟩)
  · obtain ⟨m, o, _, _, e, _⟩ := R.loc; exact ⟨o, e⟩
  · obtain ⟨v, o, e2, _⟩ := R.cel x a e; exact ⟨o, e2⟩
/-! for -/
noncomputable def pfor (i : Nat) (g : S) : List V → S
  | [] => fun Γ σ => some (.next, Γ, σ)
  | v :: r => fun Γ σ => (g (Γ.set i (.val v)) σ).bind fun q => match q.1 with
      | .next => pfor i g r q.2.1 q.2.2
      | .cont => pfor i g r q.2.1 q.2.2
      | .brk => some (.next, q.2.1, q.2.2)
      | .ret v => some (.ret v, q.2.1, q.2.2)
noncomputable def xfor (i : Nat) (f : El) (g : S) : S := fun Γ σ => (f Γ σ).bind fun l => pfor i g l Γ σ
theorem X_for {i : Nat} {x : Str} {k : Kd} {px pos : Pos} {iter : Expr} {body : List Stmt} {f : El} {g : S} (hx : xs[i]? = some (x, k)) (hk : k ≠ .cap) (hi : Iters B n xs gs iter f) (hb : ExecL B n xs gs body g)
    (hs : ∀ env x, foldedSetIterable iter env x = pure x := by intro _ _; rfl) : Exec1 B n xs gs (.For (.Name x px) iter body [] pos) (xfor i f g) := by
  intro env A F μ Γ σ s r hA S R X hf Q E hQ
  obtain ⟨l, el, hf⟩ := Option.bind_eq_some_iff.mp hf
  refine wpAny_For (hi env A F μ Γ σ s l hA S R X el _ E fun it s₀ F₀ n₀ I₀ => ?_) (hs env)
  obtain ⟨I, fp, P, T, rfl, W, hI, wk, hP⟩ := Walking.start (Ow := Own env xs) S n₀ R.ownThere X.there I₀
  have W := W A hA.handled
  refine codeAny_forLoop (fun k s' => ∃ j F' μ' Γ' σ', k = l.length - j ∧ j ≤ l.length ∧ SNext B (Own env xs) F μ s F' μ' s' ∧ Rd F' μ' xs gs env Γ' s'.heap ∧ Mu F' μ' σ' s'.heap ∧ F₀.le F' ∧ Walking B F' μ' (Own env xs) s'.heap I fp T j ∧
    pfor i g (l.drop j) Γ' σ' = some r) ?_ l.length ⟨0, F₀, μ, Γ, σ, rfl, Nat.zero_le _, n₀.toS, R.next n₀, X.next n₀, F₀.le_refl, wk, by simpa using hf⟩ (by intro _; rfl)
  rintro k s₁ ⟨j, F₁, μ₁, Γ₁, σ₁, rfl, hj, N₁, R₁, X₁, le₁, wk₁, h₁⟩
  have hT := W.frame
  by_cases hlt : j < l.length
  · refine W.item j s₁ _ _ hlt wk₁.at' fun v h' tk hv hT' hk' => ?_
    have kk : ∀ b o, b ≠ I → s₁.heap.get? b = some o → h'.get? b = some o := fun b o ne e => hk' b o (by simpa using ne) e
    obtain ⟨p, ep, rp⟩ := hP j v hlt hv
    have N₂ := N₁.fresh (tk := tk) hI wk₁.fz wk₁.out.1 kk
    have R₂ := R.other R₁ hI kk
    have X₂ := X₁.own wk₁.out.2.2 kk
    have wk₂ : Walking B F₁ μ₁ (Own env xs) h' I fp T (j + 1) := ⟨hT', wk₁.fz, wk₁.out, wk₁.foot, wk₁.live⟩
    have hd : l.drop j = p :: l.drop (j + 1) := by
      rw [List.drop_eq_getElem_cons hlt]; congr 1
      exact Option.some.inj ((List.getElem?_eq_getElem hlt).symm.trans ep)
    rw [hd] at h₁
    obtain ⟨⟨fl, Γ₃, σ₃⟩, e₃, h₁⟩ := Option.bind_eq_some_iff.mp h₁
    refine wpAny_assign_Name (store_ok N₂.st R₂ X₂ hx hk (p := .val p) (rp.mono le₁) fun s₃ n₃ R₃ X₃ => ?_)
    have wk₃ := wk₂.step N₂.st n₃ hT
    refine hb env A F₁ μ₁ _ σ₁ s₃ _ hA n₃.st R₃ X₃ e₃ _ _ fun v₄ s₄ F₄ μ₄ n₄ r₄ => ?_
    obtain ⟨q, R₄, X₄⟩ := r₄
    have wk₄ := wk₃.step n₃.st n₄ hT
    have N := (N₂.trans n₃).trans n₄
    cases fl with
    | next => cases v₄ <;> try exact q.elim
              exact ⟨l.length - (j + 1), by omega, j + 1, F₄, μ₄, Γ₃, σ₃, rfl, hlt, N, R₄, X₄, Fz.le_trans le₁ n₄.ext, wk₄, h₁⟩
    | cont => cases v₄ <;> try exact q.elim
              exact ⟨l.length - (j + 1), by omega, j + 1, F₄, μ₄, Γ₃, σ₃, rfl, hlt, N, R₄, X₄, Fz.le_trans le₁ n₄.ext, wk₄, h₁⟩
    | brk => cases v₄ <;> try exact q.elim
             cases h₁; exact hQ _ s₄ F₄ μ₄ N ⟨trivial, R₄, X₄⟩
    | ret p => cases v₄ <;> try exact q.elim
               cases h₁; exact hQ _ s₄ F₄ μ₄ N ⟨q, R₄, X₄⟩
  · have he : j = l.length := by omega
    subst he
    refine W.done s₁ _ _ wk₁.at' fun h' tk hk' => ?_
    have kk : ∀ b o, b ≠ I → s₁.heap.get? b = some o → h'.get? b = some o := fun b o ne e => hk' b o (by simpa using ne) e
    rw [List.drop_length] at h₁
    cases h₁
    exact wpAny_execs_nil (hQ _ _ F₁ μ₁ (N₁.fresh (tk := tk) hI wk₁.fz wk₁.out.1 kk) ⟨trivial, R.other R₁ hI kk, X₁.own wk₁.out.2.2 kk⟩)
end
end Mine
/-! part 9 -/
namespace Mine
open PySem PySem.Calls PyProof.Rows
/-! cells of a new frame -/
structure CellsJ (h₀ : Heap) (acc₀ : List (Str × Addr)) (h : Heap) (acc : List (Str × Addr)) : Prop where
  lt : ∀ x c, acc.lookup x = some c → c < h.objs.size
  from' : ∀ x c, acc.lookup x = some c → acc₀.lookup x = some c ∨ (h₀.objs.size ≤ c ∧ h.IsCell c none)
  inj : ∀ x y c, acc.lookup x = some c → acc.lookup y = some c → x = y
  keep : ∀ b o, h₀.get? b = some o → h.get? b = some o
  size : h₀.objs.size ≤ h.objs.size
theorem cells_ok {h₀ : Heap} {acc₀ : List (Str × Addr)} : ∀ (names : List (Str × NameKind)) (h : Heap) (acc : List (Str × Addr)), CellsJ h₀ acc₀ h acc → CellsJ h₀ acc₀ (pushCells h names) (cellsFrom h.objs.size names acc)
  | [], _, _, x => x
  | (name, kind) :: r, h, acc, x => by
    unfold pushCells cellsFrom
    split
    · rename_i hk
      have := cells_ok (h₀ := h₀) (acc₀ := acc₀) r (h.push { cls := .type "cell", data := .cell none }) ((name, h.objs.size) :: acc) {
        lt := fun y c e => by
          rw [Heap.size_push]
          rw [List.lookup_cons] at e
          split at e
          · cases e; exact Nat.lt_succ_self _
          · exact Nat.lt_succ_of_lt (x.lt y c e)
        from' := fun y c e => by
          rw [List.lookup_cons] at e
          split at e
          · cases e; exact .inr ⟨x.size, ⟨_, Heap.get?_push_size _ rfl, rfl⟩⟩
          · exact (x.from' y c e).imp id fun q => ⟨q.1, q.2.keeps fun b o e => Heap.get?_push_of_some _ e⟩
        inj := fun y z c e1 e2 => by
          rw [List.lookup_cons] at e1 e2
          split at e1
          · rename_i h1
            cases e1
            split at e2
            · rename_i h2; rw [beq_iff_eq.mp h1, beq_iff_eq.mp h2]
            · exact absurd (x.lt z _ e2) (Nat.lt_irrefl _)
          · split at e2
            · cases e2; exact absurd (x.lt y _ e1) (Nat.lt_irrefl _)
            · exact x.inj y z c e1 e2
        keep := fun b o e => Heap.get?_push_of_some _ (x.keep b o e)
        size := by rw [Heap.size_push]; exact Nat.le_succ_of_le x.size }
      rwa [Heap.size_push] at this
    · exact cells_ok r h acc x
theorem cellsFrom_not {x : Str} : ∀ (names : List (Str × NameKind)) (n : Nat) (acc : List (Str × Addr)), (x, NameKind.cell) ∉ names → (cellsFrom n names acc).lookup x = acc.lookup x
  | [], _, _, _ => rfl
  | (y, k) :: r, n, acc, h => by
    unfold cellsFrom
    split
    · rename_i hk
      rw [cellsFrom_not r _ _ fun m => h (.tail _ m), List.lookup_cons]
      have hne : x ≠ y := by rintro rfl; exact h (by rw [beq_iff_eq.mp hk]; exact .head _)
      rw [beq_eq_false_iff_ne.mpr hne]
    · exact cellsFrom_not r _ _ fun m => h (.tail _ m)
theorem cellsFrom_has {x : Str} : ∀ (names : List (Str × NameKind)) (n : Nat) (acc : List (Str × Addr)), (x, NameKind.cell) ∈ names → ∃ c, (cellsFrom n names acc).lookup x = some c ∧ n ≤ c
  | (y, k) :: r, n, acc, h => by
    unfold cellsFrom
    by_cases hm : (x, NameKind.cell) ∈ r
    · split
      · obtain ⟨c, e, hc⟩ := cellsFrom_has r (n + 1) ((y, n) :: acc) hm; exact ⟨c, e, Nat.le_of_succ_le hc⟩
      · exact cellsFrom_has r n acc hm
    · rcases List.mem_cons.mp h with e | e
      · cases e
        simp only [beq_self_eq_true, if_true]
        rw [cellsFrom_not r _ _ hm]
        exact ⟨n, by simp [List.lookup_cons], Nat.le_refl _⟩
      · exact absurd e hm
theorem pushCells_size : ∀ (names : List (Str × NameKind)) (h : Heap), h.objs.size ≤ (pushCells h names).objs.size
  | [], _ => Nat.le_refl _
  | (y, k) :: r, h => by
    unfold pushCells
    split
    · exact Nat.le_trans (by rw [Heap.size_push]; exact Nat.le_succ _) (pushCells_size r _)
    · exact pushCells_size r h
/-! captured names -/
theorem closureFor_loop {env : Env} : ∀ (names : List (Str × NameKind)) (acc : List (Str × Addr)), (∀ x, (x, NameKind.free) ∈ names → ∃ c, env.cells.lookup x = some c) →
    (∀ x c, acc.lookup x = some c → env.cells.lookup x = some c) →
    ∃ cl, (forIn names acc (fun (p : Str × NameKind) (cs : List (Str × Addr)) => if p.2 == NameKind.free then (do let c ← cellOf env p.1; pure (ForInStep.yield ((p.1, c) :: cs))) else pure (ForInStep.yield cs)) : Sem (List (Str × Addr))) = pure cl ∧
      (∀ x c, cl.lookup x = some c → env.cells.lookup x = some c) ∧ (∀ x, (acc.lookup x).isSome = true ∨ (x, NameKind.free) ∈ names → cl.lookup x = env.cells.lookup x)
  | [], acc, _, ha => ⟨acc, rfl, ha, fun x hx => by
      rcases hx with hx | hx
      · obtain ⟨c, e⟩ := Option.isSome_iff_exists.mp hx; rw [e, ha x c e]
      · cases hx⟩
  | (y, k) :: r, acc, hn, ha => by
    rw [List.forIn_cons]
    by_cases hk : (k == NameKind.free) = true
    · obtain ⟨c, ec⟩ := hn y (by rw [beq_iff_eq.mp hk]; exact .head _)
      obtain ⟨cl, e1, e2, e3⟩ := closureFor_loop r ((y, c) :: acc) (fun x hx => hn x (.tail _ hx)) fun x d e => by
        rw [List.lookup_cons] at e
        split at e
        · rename_i q; cases e; rw [beq_iff_eq.mp q]; exact ec
        · exact ha x d e
      refine ⟨cl, ?_, e2, fun x hx => e3 x ?_⟩
      · simp only [hk, if_true]
        unfold cellOf
        rw [ec]
        exact e1
      · rcases hx with hx | hx
        · refine .inl ?_
          rw [List.lookup_cons]
          split
          · rfl
          · exact hx
        · rcases List.mem_cons.mp hx with e | hx
          · cases e; exact .inl (by simp [List.lookup_cons])
          · exact .inr hx
    · obtain ⟨cl, e1, e2, e3⟩ := closureFor_loop r acc (fun x hx => hn x (.tail _ hx)) ha
      refine ⟨cl, ?_, e2, fun x hx => e3 x (hx.imp id fun hx => ?_)⟩
      · rw [if_neg hk]; exact e1
      · rcases List.mem_cons.mp hx with e | hx
        · cases e; exact absurd rfl hk
        · exact hx
theorem closureFor_ok {scope : Scope} {env : Env} (h : ∀ x, (x, NameKind.free) ∈ scope.names → ∃ c, env.cells.lookup x = some c) :
    ∃ cl, closureFor scope env = pure cl ∧ (∀ x c, cl.lookup x = some c → env.cells.lookup x = some c) ∧ (∀ x, (x, NameKind.free) ∈ scope.names → cl.lookup x = env.cells.lookup x) := by
  obtain ⟨cl, e1, e2, e3⟩ := closureFor_loop scope.names [] h (fun x c e => by cases e)
  refine ⟨cl, ?_, e2, fun x hx => e3 x (.inr hx)⟩
  unfold closureFor
  exact (congrArg (fun m : Sem (List (Str × Addr)) => m >>= fun s => pure s) e1).trans rfl
theorem lookup_relabel {env : Env} (x : Str) : ∀ (names : List (Str × NameKind)),
    (names.map fun (n, k) => if (k == NameKind.free && env.scope.kind == .function && env.kindOf n == some .cell) then (n, NameKind.cell) else (n, k)).lookup x =
      (names.lookup x).map fun k => if (k == NameKind.free && env.scope.kind == .function && env.kindOf x == some .cell) then NameKind.cell else k
  | [] => rfl
  | (n, k) :: r => by
    show List.lookup x ((if (k == NameKind.free && env.scope.kind == .function && env.kindOf n == some .cell) = true then (n, NameKind.cell) else (n, k)) :: _) = _
    cases hx : x == n with
    | true =>
      have : x = n := beq_iff_eq.mp hx
      subst this
      by_cases hc : (k == NameKind.free && env.scope.kind == .function && env.kindOf x == some .cell) = true
      · rw [if_pos hc, List.lookup_cons, hx, List.lookup_cons, hx]
        simp only [Option.map_some, if_pos hc]
      · rw [if_neg hc, List.lookup_cons, hx, List.lookup_cons, hx]
        simp only [Option.map_some, if_neg hc]
    | false =>
      have ih := lookup_relabel (env := env) x r
      by_cases hc : (k == NameKind.free && env.scope.kind == .function && env.kindOf n == some .cell) = true
      · rw [if_pos hc, List.lookup_cons, hx, List.lookup_cons, hx]; exact ih
      · rw [if_neg hc, List.lookup_cons, hx, List.lookup_cons, hx]; exact ih
noncomputable def compEnv (scope : Scope) (cl : List (Str × Addr)) (C : Addr) (env : Env) : Env :=
  { scope, locals := C, globals := env.globals, cells := cellsFrom (C + 1) scope.names cl, qual := env.qual, func := none, code := env.code, frame := env.frame, builtins := env.builtins }
theorem wpAny_newCompEnv {M : Model} {A : Around} {E : Value → Shared → Prop} {s : Shared} {scope : Scope} {cl : List (Str × Addr)} {env : Env} {Q : Env → Shared → Prop}
    (hQ : Q (compEnv scope cl s.heap.objs.size env) { s with heap := pushCells (s.heap.push { cls := .type "dict", data := .dict #[] }) scope.names }) :
    wpAny M A (newFunctionEnv scope env.globals cl [] env.qual none .none (some env)) Q E s := by
  simp only [newFunctionEnv, Option.isSome_some, if_true]
  refine wpAny_bind (wpAny_alloc ?_)
  refine wpAny_bind (wpAny_layCells _ (fun name kind cells => by cases hkc : kind == NameKind.cell <;> simp [hkc]) _ _ _ _ ?_)
  rw [show ({ s with heap := s.heap.push { cls := .type "dict", data := .dict #[] } } : Shared).heap.objs.size = s.heap.objs.size + 1 from Heap.size_push ..]
  exact wpAny_bind (wpAny_pure (wpAny_pure hQ))
/-! the comprehension's frame -/
/-- what a comprehension's scope must be -/
structure CScope (scope : Scope) (xs ys : Names) (hs : List Str) (m : Nat) (js : List Nat) : Prop where
  kind : scope.kind = .function
  locals : ∀ y ∈ scope.names, y.2 = .local → scope.names.lookup y.1 = some .local
  cells : ∀ x, (x, NameKind.cell) ∈ scope.names → scope.names.lookup x = some .cell
  len : ys.length = m + js.length
  own : ∀ (i : Nat) (x : Str) (k : Kd), i < m → ys[i]? = some (x, k) → (k = .loc ∧ scope.names.lookup x = some .local) ∨ (k = .own ∧ scope.names.lookup x = some .cell)
  cap : ∀ (i : Nat) (x : Str) (k : Kd), ys[m + i]? = some (x, k) → k = .cap ∧ scope.names.lookup x = some .free ∧ ∃ j k', js[i]? = some j ∧ xs[j]? = some (x, k') ∧ k' ≠ .loc
  free : ∀ x, (x, NameKind.free) ∈ scope.names → (x, Kd.cap) ∈ ys
  names : (ys.map (·.1)).Nodup
  nodbg : ∀ x k, (x, k) ∈ ys → (x == ("__debug__" : Str)) = false ∧ (x == ("__classdict__" : Str)) = false
  glob : ∀ x ∈ hs, scope.names.lookup x = some .globalImplicit
noncomputable def valOnly : Sl → Sl
  | .val v => .val v
  | _ => .undef
noncomputable def capt (m : Nat) (js : List Nat) (Γ : Cx) : Cx := List.replicate m .undef ++ js.map fun j => match Γ[j]? with | some p => valOnly p | none => .undef
theorem mem_of_lookup' {α : Type} [BEq α] {β : Type} [LawfulBEq α] {x : α} {b : β} : ∀ {l : List (α × β)}, l.lookup x = some b → (x, b) ∈ l
  | (y, c) :: r, h => by
    rw [List.lookup_cons] at h
    split at h
    · rename_i q; cases h; rw [beq_iff_eq.mp q]; exact .head _
    · exact .tail _ (mem_of_lookup' h)
section
variable {B : Base} {n : Nat} {xs ys : Names} {gs hs : List Str}
theorem comp_frame {F : Fz} {μ : Mus} {env : Env} {Γ : Cx} {s₀ : Shared} {scope : Scope} {m : Nat} {js : List Nat} {cl : List (Str × Addr)} (S : St B F s₀.heap) (C : CScope scope xs ys hs m js) (R : Rd F μ xs gs env Γ s₀.heap)
    (c1 : ∀ x c, cl.lookup x = some c → env.cells.lookup x = some c) (c2 : ∀ x, (x, NameKind.free) ∈ scope.names → cl.lookup x = env.cells.lookup x) :
    Rd F [] ys hs { compEnv scope cl s₀.heap.objs.size env with scope := relabel scope env } (capt m js Γ) (pushCells (s₀.heap.push { cls := .type "dict", data := .dict #[] }) scope.names) ∧
    (∀ a, Own { compEnv scope cl s₀.heap.objs.size env with scope := relabel scope env } ys a → s₀.heap.objs.size ≤ a) ∧
    (∀ b o, s₀.heap.get? b = some o → (pushCells (s₀.heap.push { cls := .type "dict", data := .dict #[] }) scope.names).get? b = some o) ∧
    (∀ x c, (compEnv scope cl s₀.heap.objs.size env).cells.lookup x = some c → env.cells.lookup x = some c ∨ s₀.heap.objs.size ≤ c) := by
  have hsz : (s₀.heap.push { cls := .type "dict", data := .dict #[] }).objs.size = s₀.heap.objs.size + 1 := Heap.size_push ..
  have J := cells_ok (h₀ := s₀.heap.push { cls := .type "dict", data := .dict #[] }) (acc₀ := cl) scope.names (s₀.heap.push { cls := .type "dict", data := .dict #[] }) cl {
    lt := fun x c e => by
      obtain ⟨v, o, ho, _⟩ := R.cel x c (c1 x c e)
      rw [hsz]; exact Nat.lt_succ_of_lt (Heap.lt_size ho)
    from' := fun x c e => .inl e
    inj := fun x y c e1 e2 => R.apart x y c (c1 x c e1) (c1 y c e2)
    keep := fun b o e => e
    size := Nat.le_refl _ }
  rw [hsz] at J
  have keep₀ : ∀ b o, s₀.heap.get? b = some o → (pushCells (s₀.heap.push { cls := .type "dict", data := .dict #[] }) scope.names).get? b = some o := fun b o e => J.keep b o (Heap.get?_push_of_some _ e)
  have hC : (pushCells (s₀.heap.push { cls := .type "dict", data := .dict #[] }) scope.names).Ns s₀.heap.objs.size fun _ => none := (Heap.Ns.new s₀.heap (.type "dict")).keeps J.keep
  have hold : ∀ x c, (cellsFrom (s₀.heap.objs.size + 1) scope.names cl).lookup x = some c → (∃ v, (pushCells (s₀.heap.push { cls := .type "dict", data := .dict #[] }) scope.names).IsCell c v) ∧ c ≠ s₀.heap.objs.size ∧ Away F [] c := fun x c e => by
    rcases J.from' x c e with q | ⟨q1, q2⟩
    · obtain ⟨v, o, ho, hd⟩ := R.cel x c (c1 x c q)
      exact ⟨⟨v, o, keep₀ _ _ ho, hd⟩, Nat.ne_of_lt (Heap.lt_size ho), (R.celF x c (c1 x c q)).1, (R.celF x c (c1 x c q)).2.1, by simp⟩
    · rw [hsz] at q1
      have hn : s₀.heap.get? c = none := get_ge (by (first | lia | omega))
      exact ⟨⟨none, q2⟩, Nat.ne_of_gt q1, S.none hn, S.notTab hn, by simp⟩
  have hfree : ∀ x, scope.names.lookup x = some .free → (x, NameKind.cell) ∉ scope.names := fun x e hm => by rw [C.cells x hm] at e; cases e
  have hcapc : ∀ x, scope.names.lookup x = some .free → (cellsFrom (s₀.heap.objs.size + 1) scope.names cl).lookup x = env.cells.lookup x := fun x e => by
    rw [cellsFrom_not _ _ _ (hfree x e)]; exact c2 x (mem_of_lookup' e)
  have hys : ∀ x k, (x, k) ∈ ys → (k = .loc ∧ scope.names.lookup x = some .local) ∨ (k = .own ∧ scope.names.lookup x = some .cell) ∨ (k = .cap ∧ scope.names.lookup x = some .free ∧ ∃ c, env.cells.lookup x = some c) := fun x k hm => by
    obtain ⟨i, hi, e⟩ := List.mem_iff_getElem.mp hm
    have e' : ys[i]? = some (x, k) := by rw [List.getElem?_eq_getElem hi, e]
    by_cases hlt : i < m
    · rcases C.own i x k hlt e' with q | q
      · exact .inl q
      · exact .inr (.inl q)
    · obtain ⟨q1, q2, j, k', q3, q4, q5⟩ := C.cap (i - m) x k (by rw [show m + (i - m) = i by (first | lia | omega)]; exact e')
      refine .inr (.inr ⟨q1, q2, ?_⟩)
      have K := R.knd x k' (List.mem_of_getElem? q4)
      cases k' with
      | loc => exact absurd rfl q5
      | own => exact K.2
      | cap => exact K.2
  refine ⟨?_, ?_, keep₀, fun x c e => (J.from' x c e).imp (c1 x c) fun q => by have := q.1; rw [hsz] at this; (first | lia | omega)⟩
  · exact {
      glob := R.glob, bui := R.bui, fn := C.kind, names := C.names, nodbg := C.nodbg
      len := by rw [C.len]; simp [capt]
      knd := fun x k hm => by
        rcases hys x k hm with ⟨rfl, e⟩ | ⟨rfl, e⟩ | ⟨rfl, e, c, hc⟩
        · show (relabel scope env).names.lookup x = _
          unfold relabel; rw [lookup_relabel, e]; rfl
        · refine ⟨?_, ?_⟩
          · show (relabel scope env).names.lookup x = _
            unfold relabel; rw [lookup_relabel, e]; rfl
          · obtain ⟨c, h1, _⟩ := cellsFrom_has scope.names (s₀.heap.objs.size + 1) cl (mem_of_lookup' e)
            exact ⟨c, h1⟩
        · refine ⟨?_, c, by show (cellsFrom _ _ _).lookup x = _; rw [hcapc x e]; exact hc⟩
          show (relabel scope env).names.lookup x = _ ∨ (relabel scope env).names.lookup x = _
          unfold relabel; rw [lookup_relabel, e]
          simp only [Option.map_some]
          split
          · exact .inl rfl
          · exact .inr rfl
      gl := fun x hx => by
        show (relabel scope env).names.lookup x = _
        unfold relabel; rw [lookup_relabel, C.glob x hx]; rfl
      has := fun i x k p e1 e2 hp => by
        by_cases hlt : i < m
        · unfold capt at e2
          rw [List.getElem?_append_left (by simpa using hlt)] at e2
          rw [List.getElem?_replicate] at e2
          rw [if_pos hlt] at e2
          cases e2; exact absurd rfl hp
        · obtain ⟨q1, q2, j, k', q3, q4, q5⟩ := C.cap (i - m) x k (by rw [show m + (i - m) = i by (first | lia | omega)]; exact e1)
          unfold capt at e2
          rw [List.getElem?_append_right (by simpa using Nat.not_lt.mp hlt)] at e2
          simp only [List.length_replicate, List.getElem?_map, q3, Option.map_some, Option.some.injEq] at e2
          subst q1
          rw [if_neg (by decide)]
          cases hg : Γ[j]? with
          | none => rw [hg] at e2; exact absurd e2.symm hp
          | some p' =>
            rw [hg] at e2
            cases p' with
            | undef => exact absurd e2.symm hp
            | ref _ => exact absurd e2.symm hp
            | fnv _ => exact absurd e2.symm hp
            | val v =>
              simp only [valOnly] at e2
              subst e2
              have H := R.has j x k' _ q4 hg (by simp)
              rw [if_neg q5] at H
              obtain ⟨c, w, h1, ⟨o, h2, h3⟩, h4⟩ := H
              exact ⟨c, w, by show (cellsFrom _ _ _).lookup x = _; rw [hcapc x q2]; exact h1, ⟨o, keep₀ _ _ h2, h3⟩, h4⟩
      loc := ⟨_, hC⟩
      cel := fun x c e => (hold x c e).1
      apart := fun x y c e1 e2 => J.inj x y c e1 e2
      locC := fun x c e => (hold x c e).2.1
      locF := ⟨S.none (get_size _), S.notTab (get_size _), by simp⟩
      celF := fun x c e => (hold x c e).2.2 }
  · rintro a (rfl | ⟨x, hm, e⟩)
    · exact Nat.le_refl _
    · rcases hys x _ hm with ⟨q, _⟩ | ⟨_, e2⟩ | ⟨q, _⟩
      · cases q
      · obtain ⟨c, h1, h2⟩ := cellsFrom_has scope.names (s₀.heap.objs.size + 1) cl (mem_of_lookup' e2)
        have e' : (cellsFrom (s₀.heap.objs.size + 1) scope.names cl).lookup x = some a := e
        rw [h1] at e'; cases e'; (first | lia | omega)
      · cases q
end
end Mine
/-! part 10 -/
namespace Mine
open PySem PySem.Calls PyProof.Rows
section
variable {B : Base} {n : Nat} {xs ys : Names} {gs hs : List Str}
theorem Rd.but {F : Fz} {μ : Mus} {env : Env} {Γ : Cx} {h h' : Heap} {I : Addr} (R : Rd F μ xs gs env Γ h) (hl : env.locals ≠ I) (hc : ∀ x c, env.cells.lookup x = some c → c ≠ I) (k : ∀ b o, b ≠ I → h.get? b = some o → h'.get? b = some o) :
    Rd F μ xs gs env Γ h' where
  glob := R.glob
  bui := R.bui
  fn := R.fn
  len := R.len
  knd := R.knd
  gl := R.gl
  names := R.names
  nodbg := R.nodbg
  apart := R.apart
  locC := R.locC
  locF := R.locF
  celF := R.celF
  has := fun i x q p e1 e2 => (R.has i x q p e1 e2).keeps F.le_refl ⟨[], (List.append_nil _).symm⟩ (fun _ m hn => ⟨m, hn.at' fun o e => k _ _ hl e, rfl⟩) fun _ c o e3 e => k _ _ (hc x c e3) e
  loc := let ⟨m, hn⟩ := R.loc; ⟨m, hn.at' fun o e => k _ _ hl e⟩
  cel := fun x c e => let ⟨v, o, ho, hd⟩ := R.cel x c e; ⟨v, o, k _ _ (hc x c e) ho, hd⟩
theorem Rd.forget {F : Fz} {μ : Mus} {env : Env} {Γ : Cx} {h : Heap} (R : Rd F μ xs gs env Γ h) (i : Nat) : Rd F μ xs gs env (Γ.set i .undef) h where
  glob := R.glob
  bui := R.bui
  fn := R.fn
  len := by rw [List.length_set]; exact R.len
  knd := R.knd
  gl := R.gl
  names := R.names
  nodbg := R.nodbg
  apart := R.apart
  locC := R.locC
  locF := R.locF
  celF := R.celF
  loc := R.loc
  cel := R.cel
  has := fun j x q p e1 e2 => by
    by_cases hij : i = j
    · subst hij
      intro hp
      by_cases hlt : i < Γ.length
      · rw [List.getElem?_set_self hlt] at e2; cases e2; exact absurd rfl hp
      · rw [List.getElem?_eq_none (by rw [List.length_set]; (first | lia | omega))] at e2; cases e2
    · rw [List.getElem?_set_ne hij] at e2
      exact R.has j x q p e1 e2
theorem Mu.none' {F : Fz} {h : Heap} : Mu F [] [] h := ⟨rfl, fun i fp o e => by simp at e, List.nodup_nil, fun a h => by simp at h, fun a h => by simp at h⟩
/-- a list that is being filled -/
structure Acc (F : Fz) (h : Heap) (D : Addr) (ps : List V) : Prop where
  fz : F D = none
  tab : D ∉ tabs
  at' : ∃ vs k, h.get? D = some ⟨.type "list", none, .seq vs.toArray k, #[]⟩ ∧ Reps F vs ps
  le : ps.length ≤ lim
theorem Acc.step {Ow : Addr → Prop} {F F' : Fz} {s s' : Shared} {D : Addr} {ps : List V} (x : Acc F s.heap D ps) (hD : ¬ Ow D) (N : SNext B Ow F [] s F' [] s') : Acc F' s'.heap D ps := by
  obtain ⟨vs, k, e, r⟩ := x.at'
  refine ⟨?_, x.tab, ⟨vs, k, N.keep D _ x.tab hD (by simp) e, r.mono N.ext⟩, x.le⟩
  cases q : F' D with
  | none => rfl
  | some o =>
    rcases N.new D o q with e' | e' | e'
    · rw [x.fz] at e'; cases e'
    · rw [e'] at e; cases e
    · simp at e'
theorem Acc.but {F : Fz} {h h' : Heap} {D I : Addr} {ps : List V} (x : Acc F h D ps) (hne : D ≠ I) (k : ∀ b o, b ≠ I → h.get? b = some o → h'.get? b = some o) : Acc F h' D ps :=
  ⟨x.fz, x.tab, let ⟨vs, j, e, r⟩ := x.at'; ⟨vs, j, k _ _ hne e, r⟩, x.le⟩
/-- the inside of a comprehension adds what g says -/
noncomputable def Emits (B : Base) (n : Nat) (xs : Names) (gs : List Str) (run : Env → Value → Sem PUnit) (g : El) : Prop :=
  ∀ env A F Γ s D ps q, AOk n A → St B F s.heap → Rd F [] xs gs env Γ s.heap → Acc F s.heap D ps → ¬ Own env xs D → (∀ x c, env.cells.lookup x = some c → c ≠ D) → g Γ [] = some q → ps.length + q.length ≤ lim →
    ∀ (Q : Shared → Prop) (E : Value → Shared → Prop), (∀ s' F', SNext B (fun a => Own env xs a ∨ a = D) F [] s F' [] s' → Rd F' [] xs gs env Γ s'.heap → Acc F' s'.heap D (ps ++ q) → Q s') →
      wpAny (model prg B.w) A (run env (.ref D)) (fun _ s' => Q s') E s
noncomputable def pone (f : E) : El := fun Γ σ => (f Γ σ).map fun v => [v]
noncomputable def emitElt (elt : Expr) : Env → Value → Sem PUnit := fun env acc => eval elt env >>= fun x => call (.builtin "list.append") [acc, x] >>= fun _ => pure ()
theorem EM_elt {elt : Expr} {f : E} (h : Evals B n xs gs (fun env => eval elt env) f) : Emits B n xs gs (emitElt elt) (pone f) := by
  intro env A F Γ s D ps q hA S R Y hD hc hg hl Q E hQ
  obtain ⟨v, e, rfl⟩ := Option.map_eq_some_iff.mp hg
  refine wpAny_bind (h env A F [] Γ [] s v hA S R Mu.none' e _ E fun w s₁ F₁ n₁ r₁ => ?_)
  have Y₁ := Y.step hD (n₁.toS (Ow := Own env xs))
  obtain ⟨vs, k, eD, rD⟩ := Y₁.at'
  refine wpAny_bind (wpAny_list_append_plain ⟨k, eD⟩ (fun h' hp hs => ?_) (by rw [List.size_toArray, rD.length]; exact lim_size Y₁.le))
  have kk : ∀ b o, b ≠ D → s₁.heap.get? b = some o → h'.get? b = some o := fun b o ne e => (hs.2 b ne).trans e
  obtain ⟨k', ep⟩ := hp
  refine wpAny_pure (hQ _ F₁ ((n₁.toS.wider fun a h => .inl h).trans (snext_change (tk := s₁.toks) n₁.st (.inl (.inr rfl)) Y₁.fz Y₁.tab kk ⟨_, ep⟩)) ?_ ⟨Y₁.fz, Y₁.tab, ⟨vs ++ [w], k', by simpa using ep, rD.snoc r₁⟩, ?_⟩)
  · exact (R.next n₁).but (fun e => hD (.inl e.symm)) hc kk
  · simpa using hl
noncomputable def cloop (i : Nat) (g : El) (Γ : Cx) : List V → Option (List V)
  | [] => some []
  | v :: r => (g (Γ.set i (.val v)) []).bind fun a => (cloop i g Γ r).map (a ++ ·)
/-- one level's loop -/
theorem comp_loop {i : Nat} {x : Str} {k : Kd} {elt : Expr} {gens : List Comprehension} {scope : Scope} {pos px ip : Pos} {d : Nat} {tail : Env → Value → Sem PUnit} {g : El} (hx : xs[i]? = some (x, k)) (hk : k ≠ .cap) (hE : Emits B n xs gs tail g)
    (hturn : ∀ it acc env, compTurn (.ListComp elt gens scope pos) d it acc env = (standAt ip >>= fun _ => pyNext it >>= fun r => match r with
      | none => pure (.done .next)
      | some v => letOwnedTupleGo (.Name x px) it v >>= fun _ => assign (.Name x px) env v >>= fun _ => tail env acc >>= fun _ => again (.compLoop (.ListComp elt gens scope pos) d it acc env)))
    {env : Env} {A : Around} {F F₀ : Fz} {Γ : Cx} {s s₀ : Shared} {D I : Addr} {fp : List Addr} {P : Nat → Value → Prop} {T : Nat → Heap → Prop} {l ps q : List V} {R' : Result → Shared → Prop} (hA : AOk n A) (N₀ : SNext B (fun a => Own env xs a ∨ a = D) F₀ [] s₀ F [] s) (hI₀ : s₀.heap.get? I = none)
    (R : Rd F [] xs gs env Γ s.heap) (Y : Acc F s.heap D ps) (hD : ¬ Own env xs D) (hc : ∀ x c, env.cells.lookup x = some c → c ≠ D) (hcI : ∀ x c, env.cells.lookup x = some c → c ≠ I) (hu : Γ[i]? = some .undef) (W : Walks prg B.w A I fp [I] l.length P T)
    (wk : Walking B F [] (fun a => Own env xs a ∨ a = D) s.heap I fp T 0) (hP : ∀ i v, i < l.length → P i v → ∃ p, l[i]? = some p ∧ Rep F v p) (hq : cloop i g Γ l = some q) (hl : ps.length + q.length ≤ lim)
    (hR : ∀ s' F', SNext B (fun a => Own env xs a ∨ a = D) F₀ [] s₀ F' [] s' → Rd F' [] xs gs env Γ s'.heap → Acc F' s'.heap D (ps ++ q) → R' (.ok .next) s') :
    codeAny (model prg B.w) A (.compLoop (.ListComp elt gens scope pos) d (.ref I) (.ref D) env) R' s := by
  have hDI : D ≠ I := by rintro rfl; exact wk.out.2.1 (.inr rfl)
  have hlI : env.locals ≠ I := by rintro rfl; exact wk.out.2.1 (.inl (.inl rfl))
  have hG : ∀ p, (Γ.set i (.val p)).set i .undef = Γ := fun p => by
    rw [List.set_set]
    obtain ⟨hlt, e⟩ := List.getElem?_eq_some_iff.mp hu
    rw [← e, List.set_getElem_self]
  refine codeAny_loop rfl (fun k s' => ∃ j F' q₁ q₂, k = l.length - j ∧ j ≤ l.length ∧ SNext B (fun a => Own env xs a ∨ a = D) F₀ [] s₀ F' [] s' ∧ F.le F' ∧ Rd F' [] xs gs env Γ s'.heap ∧ Acc F' s'.heap D (ps ++ q₁) ∧
    Walking B F' [] (fun a => Own env xs a ∨ a = D) s'.heap I fp T j ∧ cloop i g Γ (l.drop j) = some q₂ ∧ q₁ ++ q₂ = q) ?_ l.length
    ⟨0, F, [], q, rfl, Nat.zero_le _, N₀, F.le_refl, R, by simpa using Y, wk, by simpa using hq, rfl⟩
  rintro k s₁ ⟨j, F₁, q₁, q₂, rfl, hj, N₁, le₁, R₁, Y₁, wk₁, h₁, rfl⟩
  show wpAny _ _ ((compTurn (.ListComp elt gens scope pos) d (.ref I) (.ref D) env).onRaise (fun x => do noteFrame x env; theTreesLotGoes x)) _ _ s₁
  refine wpAny_noted ?_
  rw [hturn]
  refine wpAny_bind (wpAny_standAt (wpAny_bind ?_))
  by_cases hlt : j < l.length
  · refine W.item j s₁ _ _ hlt wk₁.at' fun v h' tk hv hT' hk' => ?_
    have kk : ∀ b o, b ≠ I → s₁.heap.get? b = some o → h'.get? b = some o := fun b o ne e => hk' b o (by simpa using ne) e
    obtain ⟨p, ep, rp⟩ := hP j v hlt hv
    have hd : l.drop j = p :: l.drop (j + 1) := by
      rw [List.drop_eq_getElem_cons hlt]; congr 1
      exact Option.some.inj ((List.getElem?_eq_getElem hlt).symm.trans ep)
    rw [hd] at h₁
    obtain ⟨a, ea, h₁⟩ := Option.bind_eq_some_iff.mp h₁
    obtain ⟨q₃, eq₃, rfl⟩ := Option.map_eq_some_iff.mp h₁
    have N₂ := N₁.fresh (tk := tk) hI₀ wk₁.fz wk₁.out.1 kk
    have R₂ := R₁.but hlI hcI kk
    have Y₂ := Y₁.but hDI kk
    have wk₂ : Walking B F₁ [] (fun a => Own env xs a ∨ a = D) h' I fp T (j + 1) := ⟨hT', wk₁.fz, wk₁.out, wk₁.foot, wk₁.live⟩
    refine wpAny_bind (wpAny_of_eq (a := ()) rfl (wpAny_bind (wpAny_assign_Name (store_ok N₂.st R₂ Mu.none' hx hk (p := .val p) (rp.mono le₁) fun s₃ n₃ R₃ X₃ => wpAny_bind ?_))))
    have Y₃ := Y₂.step hD n₃
    have wk₃ := wk₂.step N₂.st (n₃.wider fun a h => .inl h) W.frame
    simp only [List.length_append] at hl
    refine hE env A F₁ _ s₃ D _ a hA n₃.st R₃ Y₃ hD hc ea (by simp only [List.length_append]; (first | lia | omega)) _ _ fun s₄ F₄ n₄ R₄ Y₄ => ?_
    have wk₄ := wk₃.step n₃.st n₄ W.frame
    have R₅ := R₄.forget i
    rw [hG] at R₅
    refine wpAny_pure ⟨rfl, l.length - (j + 1), by (first | lia | omega), j + 1, F₄, q₁ ++ a, q₃, rfl, hlt, ?_, Fz.le_trans le₁ n₄.ext, R₅, by simpa using Y₄, wk₄, eq₃, by simp⟩
    exact (N₂.trans (n₃.wider fun a h => .inl h)).trans n₄
  · have he : j = l.length := by (first | lia | omega)
    subst he
    refine W.done s₁ _ _ wk₁.at' fun h' tk hk' => ?_
    have kk : ∀ b o, b ≠ I → s₁.heap.get? b = some o → h'.get? b = some o := fun b o ne e => hk' b o (by simpa using ne) e
    rw [List.drop_length] at h₁
    cases h₁
    exact wpAny_pure (hR _ F₁ (N₁.fresh (tk := tk) hI₀ wk₁.fz wk₁.out.1 kk) (R₁.but hlI hcI kk) (by simpa using Y₁.but hDI kk))
theorem comp_start {elt : Expr} {gens : List Comprehension} {scope : Scope} {pos : Pos} {d : Nat} {I : Addr} {acc : Value} {env : Env} {A : Around} {s : Shared} {R' : Result → Shared → Prop} {fp : List Addr} {k : Nat} {P : Nat → Value → Prop} {T : Nat → Heap → Prop}
    (W : ∀ A : Around, A.handled = none → Walks prg B.w A I fp [I] k P T) (hh : A.handled = none) (h0 : T 0 s.heap) (hd : ((clausesOf (.ListComp elt gens scope pos))[d]?).elim false (·.is_async != 0) = false)
    (h : codeAny (model prg B.w) A (.compLoop (.ListComp elt gens scope pos) d (.ref I) acc env) R' s) : codeAny (model prg B.w) A (.compStart (.ListComp elt gens scope pos) d (.ref I) acc env) R' s := by
  refine codeAny_of_tree ?_
  show wpAny _ _ ((compStart (.ListComp elt gens scope pos) d (.ref I) acc env).onRaise (fun x => do noteFrame x env; standAt theWindowsPlace)) _ _ s
  refine wpAny_notedAt ?_
  unfold compStart
  rw [if_neg (by rw [hd]; decide)]
  refine wpAny_bind (wpAny_askSetting (wpAny_ite ?_))
  split
  · exact wpAny_pure (And.intro rfl h)
  · refine wpAny_bind (wpAny_rule ?_)
    have hf : wpAny (model prg B.w) (A.under (Code.compStart (elt.ListComp gens scope pos) d (Value.ref I) acc env)) (pyIter (.ref I) >>= fun it' => again (.compLoop (.ListComp elt gens scope pos) d it' acc env))
        (fun fin s' => match fin with | .done f => R' (.ok f) s' | .again c' => c'.quiet = true ∧ codeAny (model prg B.w) A c' R' s')
        (notedBy (model prg B.w) (A.under (Code.compStart (elt.ListComp gens scope pos) d (Value.ref I) acc env)) env fun e s' => R' (Except.error e) s') s :=
      wpAny_bind ((W _ hh).self 0 s _ _ h0 (wpAny_pure (And.intro rfl h)))
    cases hg : (clausesOf (elt.ListComp gens scope pos))[d]? with
    | none => exact hf
    | some g => exact wpAny_bind (wpAny_standAt hf)
/-- the inner level of two -/
noncomputable def emitFor (e : Expr) (g : Comprehension) (d : Nat) : Env → Value → Sem PUnit := fun env acc => eval g.iter env >>= fun x => standAt g.iter.pos >>= fun _ => foldedSetIterable g.iter env x >>= fun x => holding [x] (pyIter x) >>= fun it =>
  runOwn (.compStart e d it acc env) env >>= fun _ => pure ()
noncomputable def cfor (i : Nat) (f : El) (g : El) : El := fun Γ σ => match Γ[i]? with
  | some .undef => (f Γ σ).bind fun l => cloop i g Γ l
  | _ => none
theorem EM_for {i : Nat} {x : Str} {k : Kd} {elt iter : Expr} {gens : List Comprehension} {scope : Scope} {pos px ip : Pos} {d : Nat} {ifs : List Expr} {tail : Env → Value → Sem PUnit} {f g : El} (hx : xs[i]? = some (x, k)) (hk : k ≠ .cap) (hi : Iters B n xs gs iter f) (hE : Emits B n xs gs tail g)
    (hturn : ∀ it acc env, compTurn (.ListComp elt gens scope pos) d it acc env = (standAt ip >>= fun _ => pyNext it >>= fun r => match r with
      | none => pure (.done .next)
      | some v => letOwnedTupleGo (.Name x px) it v >>= fun _ => assign (.Name x px) env v >>= fun _ => tail env acc >>= fun _ => again (.compLoop (.ListComp elt gens scope pos) d it acc env)))
    (hd : ((clausesOf (.ListComp elt gens scope pos))[d]?).elim false (·.is_async != 0) = false) (hs : ∀ env x, foldedSetIterable iter env x = pure x := by intro _ _; rfl) :
    Emits B n xs gs (emitFor (.ListComp elt gens scope pos) ⟨.Name x px, iter, ifs, 0⟩ d) (cfor i f g) := by
  intro env A F Γ s D ps q hA S R Y hD hc hg hl Q E hQ
  unfold cfor at hg
  split at hg
  · rename_i hu
    obtain ⟨l, el, hg⟩ := Option.bind_eq_some_iff.mp hg
    refine wpAny_bind (wpAny_mono (hi env A F [] Γ [] s l hA S R Mu.none' el (fun it s₂ => wpAny (model prg B.w) A (runOwn (.compStart (.ListComp elt gens scope pos) d it (.ref D) env) env >>= fun _ => pure PUnit.unit) (fun _ s' => Q s') E s₂) E fun it s₁ F₁ n₁ I₁ => ?_)
      (fun x' s₁ h₁ => wpAny_bind (wpAny_standAt (wpAny_bind (wpAny_of_eq (hs env x') (wpAny_bind (wpAny_holding h₁)))))) fun _ _ e => e)
    obtain ⟨I, fp, P, T, rfl, W, hI, wk, hP⟩ := Walking.start (μ := []) (Ow := fun a => Own env xs a ∨ a = D) S n₁ (fun a h => h.elim (R.ownThere a) fun e => by subst e; obtain ⟨vs, j, e, _⟩ := Y.at'; exact ⟨_, e⟩) (by simp) I₁
    refine wpAny_bind (wpAny_runOwn ?_)
    rw [mark_none hA.handled]
    refine comp_start W hA.handled wk.at' hd ?_
    have hcI : ∀ x c, env.cells.lookup x = some c → c ≠ I := by rintro x c e rfl; obtain ⟨v, o, e2, _⟩ := R.cel x _ e; rw [hI] at e2; cases e2
    exact comp_loop hx hk hE hturn hA (n₁.toS (μ := [])) hI (R.next n₁) (Y.step hD (n₁.toS (Ow := Own env xs))) hD hc hcI hu (W A hA.handled) wk hP hg hl fun s' F' N R' Y' => wpAny_pure (hQ s' F' N R' Y')
  · cases hg
/-- a test ahead of the inside -/
noncomputable def emitIf (c : Expr) (tail : Env → Value → Sem PUnit) : Env → Value → Sem PUnit := fun env acc => isTrue c env (eval c env) >>= fun ok => if ok = true then tail env acc else pure ()
noncomputable def cif (t : Et) (g : El) : El := fun Γ σ => (t Γ σ).bind fun b => if b then g Γ σ else some []
theorem EM_if {c : Expr} {t : Et} {tail : Env → Value → Sem PUnit} {g : El} (ht : Tests B n xs gs (fun env => isTrue c env (eval c env)) t) (hE : Emits B n xs gs tail g) : Emits B n xs gs (emitIf c tail) (cif t g) := by
  intro env A F Γ s D ps q hA S R Y hD hc hg hl Q E hQ
  obtain ⟨b, eb, hg⟩ := Option.bind_eq_some_iff.mp hg
  refine wpAny_bind (ht env A F [] Γ [] s b hA S R Mu.none' eb _ E fun b' s₁ F₁ n₁ e => ?_)
  subst e
  have Y₁ := Y.step hD (n₁.toS (Ow := Own env xs))
  cases b' with
  | true => exact hE env A F₁ Γ s₁ D ps q hA n₁.st (R.next n₁) Y₁ hD hc hg hl Q E fun s₂ F₂ n₂ R₂ Y₂ => hQ s₂ F₂ (n₁.toS.trans n₂) R₂ Y₂
  | false => cases hg; exact wpAny_pure (hQ s₁ F₁ n₁.toS (R.next n₁) (by simpa using Y₁))
/-- the whole comprehension -/
noncomputable def pcomp (i m : Nat) (js : List Nat) (f : El) (g : El) : El := fun Γ σ => (f Γ σ).bind fun l => match (capt m js Γ)[i]? with
  | some .undef => (cloop i g (capt m js Γ) l).bind fun q => if q.length ≤ lim then some q else none
  | _ => none
theorem comp_all {i m : Nat} {js : List Nat} {x : Str} {k : Kd} {elt iter : Expr} {ifs : List Expr} {rest : List Comprehension} {scope : Scope} {pos px ip : Pos} {tail : Env → Value → Sem PUnit} {f g : El} {use : Option (Value → Sem Unit)} (C : CScope scope xs ys hs m js)
    (hx : ys[i]? = some (x, k)) (hk : k ≠ .cap) (hi : Iters B n xs gs iter f) (hE : Emits B n ys hs tail g)
    (hturn : ∀ it acc env, compTurn (.ListComp elt (⟨.Name x px, iter, ifs, 0⟩ :: rest) scope pos) 0 it acc env = (standAt ip >>= fun _ => pyNext it >>= fun r => match r with
      | none => pure (.done .next)
      | some v => letOwnedTupleGo (.Name x px) it v >>= fun _ => assign (.Name x px) env v >>= fun _ => tail env acc >>= fun _ => again (.compLoop (.ListComp elt (⟨.Name x px, iter, ifs, 0⟩ :: rest) scope pos) 0 it acc env)))
    (hs' : ∀ env x, foldedSetIterable iter env x = pure x) {env : Env} {A : Around} {F : Fz} {μ : Mus} {Γ : Cx} {σ : AH} {s : Shared} {q : List V} (hA : AOk n A) (S : St B F s.heap) (R : Rd F μ xs gs env Γ s.heap) (X : Mu F μ σ s.heap) (hq : pcomp i m js f g Γ σ = some q)
    {Q : Value → Shared → Prop} {E : Value → Shared → Prop}
    (hQ : ∀ D C s' F' m', Next B F s F' s' → s.heap.get? D = none → s.heap.get? C = none → D ≠ C → F' C = none → C ∉ tabs → s'.heap.Ns C m' → Acc F' s'.heap D q → compPost (model prg B.w) A E use Q (.ref D) C (.ok .next) s') :
    wpAny (model prg B.w) A (comprehension (.ListComp elt (⟨.Name x px, iter, ifs, 0⟩ :: rest) scope pos) scope env (firstIterPos (⟨.Name x px, iter, ifs, 0⟩ :: rest) pos) (newList []) false (eval iter env) use) Q E s := by
  obtain ⟨l, el, hq⟩ := Option.bind_eq_some_iff.mp hq
  split at hq
  · rename_i hu
    obtain ⟨q', eq, hq⟩ := Option.bind_eq_some_iff.mp hq
    split at hq
    · rename_i hlim
      cases hq
      obtain ⟨cl, c0, c1, c2⟩ := closureFor_ok (scope := scope) (env := env) fun y hy => by
        obtain ⟨j, hj, e⟩ := List.mem_iff_getElem.mp (C.free y hy)
        have e' : ys[j]? = some (y, Kd.cap) := by rw [List.getElem?_eq_getElem hj, e]
        by_cases hlt : j < m
        · rcases C.own j y _ hlt e' with q | q <;> cases q.1
        · obtain ⟨_, _, j', k', h1, h2, h3⟩ := C.cap (j - m) y _ (by rw [show m + (j - m) = j by (first | lia | omega)]; exact e')
          have K := R.knd y k' (List.mem_of_getElem? h2)
          cases k' with
          | loc => exact absurd rfl h3
          | own => exact K.2
          | cap => exact K.2
      refine wpAny_comprehension_free rfl (hs' env) c0 C.kind C.locals ?_
      refine hi env A F μ Γ σ s l hA S R X el _ E fun it s₁ F₁ n₁ I₁ => ?_
      obtain ⟨I, fp, P, T, rfl, W, h0, h1, h2, h3, h4, h5⟩ := I₁
      refine wpAny_newObj_type ?_
      refine wpAny_newCompEnv ?_
      have hs1 : (s₁.heap.push { cls := .type "list", dict := none, data := .seq ([] : List Value).toArray }).objs.size = s₁.heap.objs.size + 1 := Heap.size_push ..
      have n₂ : Next B F₁ s₁ F₁ { s₁ with heap := s₁.heap.push { cls := .type "list", dict := none, data := .seq ([] : List Value).toArray } } := Next.keeps (t := s₁.toks) n₁.st fun b o e => Heap.get?_push_of_some _ e
      obtain ⟨Rc, hOwn, keep₂, hcl⟩ := comp_frame (hs := hs) n₂.st C ((R.next n₁).next n₂) c1 c2
      have n₃ : Next B F₁ { s₁ with heap := s₁.heap.push { cls := .type "list", dict := none, data := .seq ([] : List Value).toArray } } F₁ { s₁ with heap := pushCells ((s₁.heap.push { cls := .type "list", dict := none, data := .seq ([] : List Value).toArray }).push { cls := .type "dict", data := .dict #[] }) scope.names } := Next.keeps (t := s₁.toks) n₂.st keep₂
      have N := (n₁.trans n₂).trans n₃
      obtain ⟨oI, hoI⟩ := h3 _ _ h0
      have hIlt : I < s₁.heap.objs.size := Heap.lt_size hoI
      have hD : s₁.heap.get? s₁.heap.objs.size = none := get_size _
      have hCn : s₁.heap.get? (s₁.heap.push { cls := .type "list", dict := none, data := .seq ([] : List Value).toArray }).objs.size = none := get_ge (by rw [hs1]; exact Nat.le_succ _)
      have hg0 : (s₁.heap.push { cls := .type "list", dict := none, data := .seq ([] : List Value).toArray }).get? s₁.heap.objs.size = some { cls := .type "list", dict := none, data := .seq ([] : List Value).toArray } := Heap.get?_push_size _ rfl
      have hgD := keep₂ _ _ hg0
      have Y : Acc F₁ (pushCells ((s₁.heap.push { cls := .type "list", dict := none, data := .seq ([] : List Value).toArray }).push { cls := .type "dict", data := .dict #[] }) scope.names) s₁.heap.objs.size [] :=
        ⟨n₁.st.none hD, n₁.st.notTab hD, ⟨[], 0, hgD, .nil⟩, by simp⟩
      have hDO : ¬ Own { compEnv scope cl (s₁.heap.push { cls := .type "list", dict := none, data := .seq ([] : List Value).toArray }).objs.size env with scope := relabel scope env } ys s₁.heap.objs.size := fun h => by
        have := hOwn _ h; rw [hs1] at this; exact absurd this (Nat.not_succ_le_self _)
      have kT : ∀ b ∈ fp, ∀ o, s₁.heap.get? b = some o → (pushCells ((s₁.heap.push { cls := .type "list", dict := none, data := .seq ([] : List Value).toArray }).push { cls := .type "dict", data := .dict #[] }) scope.names).get? b = some o :=
        fun b _ o e => keep₂ _ _ (Heap.get?_push_of_some _ e)
      have wk : Walking B F₁ [] (fun a => Own { compEnv scope cl (s₁.heap.push { cls := .type "list", dict := none, data := .seq ([] : List Value).toArray }).objs.size env with scope := relabel scope env } ys a ∨ a = s₁.heap.objs.size)
          (pushCells ((s₁.heap.push { cls := .type "list", dict := none, data := .seq ([] : List Value).toArray }).push { cls := .type "dict", data := .dict #[] }) scope.names) I fp T 0 :=
        ⟨(W A hA.handled).frame 0 _ _ h0 kT, h2, ⟨S.notTab h1, fun h => by
          rcases h with h | h
          · have := hOwn _ h; rw [hs1] at this; exact absurd (Nat.lt_of_lt_of_le hIlt (Nat.le_of_succ_le this)) (Nat.lt_irrefl _)
          · exact absurd (h ▸ hIlt) (Nat.lt_irrefl _), by simp⟩, h4, h3⟩
      have hcell : ∀ x c, ({ compEnv scope cl (s₁.heap.push { cls := .type "list", dict := none, data := .seq ([] : List Value).toArray }).objs.size env with scope := relabel scope env } : Env).cells.lookup x = some c → c ≠ s₁.heap.objs.size ∧ c ≠ I := fun x c e => by
        rcases hcl x c e with q | q
        · obtain ⟨v, o, e2, _⟩ := R.cel x c q
          exact ⟨(fun h => by rw [h, n₁.gone hD] at e2; cases e2), (fun h => by rw [h, h1] at e2; cases e2)⟩
        · rw [hs1] at q
          exact ⟨Nat.ne_of_gt q, Nat.ne_of_gt (Nat.lt_trans hIlt q)⟩
      refine comp_start W hA.handled wk.at' rfl ?_
      refine comp_loop hx hk hE hturn hA (N.toS (μ := [])) h1 Rc Y hDO (fun x c e => (hcell x c e).1) (fun x c e => (hcell x c e).2) hu (W A hA.handled) wk h5 eq (by simpa using hlim) fun s' F' N' R' Y' => ?_
      obtain ⟨m', hm'⟩ := R'.loc
      refine hQ _ _ s' F' m' ⟨N'.shape, N'.ext, N'.st, fun b o hb e => N'.keep b o hb (fun h => ?_) (by simp) e, fun a o e => (N'.new a o e).imp id fun h => h.elim id fun h => by simp at h⟩ (n₁.gone hD) (n₁.gone hCn) (by rw [hs1]; exact Nat.ne_of_lt (Nat.lt_succ_self _)) R'.locF.1 R'.locF.2.1 hm' (by simpa using Y')
      obtain ⟨o', e'⟩ := n₁.there e
      have hlt := Heap.lt_size e'
      rcases h with h | h
      · have := hOwn _ h; rw [hs1] at this; exact absurd (Nat.lt_of_lt_of_le hlt (Nat.le_of_succ_le this)) (Nat.lt_irrefl _)
      · exact absurd (h ▸ hlt) (Nat.lt_irrefl _)
    · cases hq
  · cases hq
theorem FL_comp {i m : Nat} {js : List Nat} {x : Str} {k : Kd} {elt iter : Expr} {ifs : List Expr} {rest : List Comprehension} {scope : Scope} {pos px ip : Pos} {tail : Env → Value → Sem PUnit} {f g : El} (C : CScope scope xs ys hs m js)
    (hx : ys[i]? = some (x, k)) (hk : k ≠ .cap) (hi : Iters B n xs gs iter f) (hE : Emits B n ys hs tail g)
    (hturn : ∀ it acc env, compTurn (.ListComp elt (⟨.Name x px, iter, ifs, 0⟩ :: rest) scope pos) 0 it acc env = (standAt ip >>= fun _ => pyNext it >>= fun r => match r with
      | none => pure (.done .next)
      | some v => letOwnedTupleGo (.Name x px) it v >>= fun _ => assign (.Name x px) env v >>= fun _ => tail env acc >>= fun _ => again (.compLoop (.ListComp elt (⟨.Name x px, iter, ifs, 0⟩ :: rest) scope pos) 0 it acc env)) := by intro _ _ _; rfl)
    (hs' : ∀ env x, foldedSetIterable iter env x = pure x := by intro _ _; rfl) :
    Fresh B n xs gs (fun env => eval (.ListComp elt (⟨.Name x px, iter, ifs, 0⟩ :: rest) scope pos) env) (pcomp i m js f g) := by
  intro env A F μ Γ σ s q hA S R X hq Q E hQ
  show wpAny _ _ (eval (.ListComp elt (⟨.Name x px, iter, ifs, 0⟩ :: rest) scope pos) env) _ _ _
  rw [eval_ListComp]
  refine comp_all (use := none) C hx hk hi hE hturn hs' hA S R X hq fun D Ca s' F' m' N hD hC hne hFC htC hm Y => ⟨m', hm, fun h' hs => ?_⟩
  obtain ⟨vs, j, e, r⟩ := Y.at'
  obtain ⟨h1, t1, rfl⟩ := N.shape
  have kk : ∀ b o, b ≠ Ca → h1.get? b = some o → h'.get? b = some o := fun b o ne e => (hs.2 b ne).trans e
  refine hQ _ _ F' ⟨⟨h', t1, rfl⟩, N.ext, N.st.keeps' (fun b o e1 e2 => kk b o (by rintro rfl; rw [hFC] at e1; cases e1) e2) (fun b o e1 e2 => kk b o (by rintro rfl; exact htC e1) e2), fun b o hb e => kk b o (by rintro rfl; rw [hC] at e; cases e) (N.keep b o hb e), N.new⟩ ?_
  exact ⟨D, vs, j, rfl, hD, Y.fz, kk _ _ hne e, r, Y.le⟩
/-- «x = [..]» where the value is stored from within -/
theorem X_compSwap {i m iy : Nat} {js : List Nat} {x y : Str} {k : Kd} {elt iter : Expr} {ifs : List Expr} {rest : List Comprehension} {scope : Scope} {pos px ip py spos : Pos} {tail : Env → Value → Sem PUnit} {f g : El} (C : CScope scope xs ys hs m js)
    (hy : xs[iy]? = some (y, .loc)) (hx : ys[i]? = some (x, k)) (hk : k ≠ .cap) (hi : Iters B n xs gs iter f) (hE : Emits B n ys hs tail g)
    (hline : (py.line == pos.line) = true) (hno : (scope.names.any fun z => z.1 == y && (z.2 == .local || z.2 == .cell)) = false)
    (hturn : ∀ it acc env, compTurn (.ListComp elt (⟨.Name x px, iter, ifs, 0⟩ :: rest) scope pos) 0 it acc env = (standAt ip >>= fun _ => pyNext it >>= fun r => match r with
      | none => pure (.done .next)
      | some v => letOwnedTupleGo (.Name x px) it v >>= fun _ => assign (.Name x px) env v >>= fun _ => tail env acc >>= fun _ => again (.compLoop (.ListComp elt (⟨.Name x px, iter, ifs, 0⟩ :: rest) scope pos) 0 it acc env)) := by intro _ _ _; rfl)
    (hs' : ∀ env x, foldedSetIterable iter env x = pure x := by intro _ _; rfl) :
    Exec1 B n xs gs (.Assign [.Name y py] (.ListComp elt (⟨.Name x px, iter, ifs, 0⟩ :: rest) scope pos) spos) (xset iy (fun Γ σ => (pcomp i m js f g Γ σ).map V.list)) := by
  intro env A F μ Γ σ s r hA S R X hf Q E hQ
  obtain ⟨v, e, rfl⟩ := Option.map_eq_some_iff.mp hf
  obtain ⟨q, hq, rfl⟩ := Option.map_eq_some_iff.mp e
  have hsw : swapsWith (.ListComp elt (⟨.Name x px, iter, ifs, 0⟩ :: rest) scope pos) (some (.Name y py)) spos.line env = pure true := by
    have K : env.kindOf y = some .local := R.knd y .loc (List.mem_of_getElem? hy)
    have hb : (env.blockKind == .function) = true := by unfold Env.blockKind; rw [R.fn]; rfl
    show pure (env.blockKind == .function && env.kindOf y == some .local && py.line == pos.line && !(scope.names.any fun (n, k) => n == y && (k == .local || k == .cell))) = (pure true : Sem Bool)
    rw [hb, K, hline]
    have : (scope.names.any fun (n, k) => n == y && (k == .local || k == .cell)) = false := hno
    rw [this]; rfl
  show wpAny _ _ (exec (.Assign [.Name y py] (.ListComp elt (⟨.Name x px, iter, ifs, 0⟩ :: rest) scope pos) spos) env) _ _ _
  rw [exec_Assign_Name_used _ _ _ _ hsw]
  refine wpAny_bind (wpAny_standAt (wpAny_bind ?_))
  show wpAny _ A (do let _ ← comprehension (.ListComp elt (⟨.Name x px, iter, ifs, 0⟩ :: rest) scope pos) scope env (firstIterPos (⟨.Name x px, iter, ifs, 0⟩ :: rest) pos) (newList []) false (eval iter env) (some (assign (.Name y py) env))) _ _ s
  refine wpAny_bind (wpAny_mono (comp_all (use := some (assign (.Name y py) env)) (Q := fun _ s' => Q .next s') C hx hk hi hE hturn hs' hA S R X hq fun D Ca s' F' m' N hD hC hne hFC htC hm Y => ?_) (fun _ s' hq => wpAny_pure (wpAny_pure hq)) fun _ _ e => e)
  show wpAny _ A (assign (.Name y py) env (.ref D)) _ _ _
  obtain ⟨vs, j, eD, rD⟩ := Y.at'
  have NF : Next B F s (F'.put D _) s' := ⟨N.shape, Fz.le_trans N.ext (Fz.le_put Y.fz), N.st.put eD Y.fz Y.tab, N.keep, fun a o e => by
    rcases Fz.put_of e with ⟨rfl, _⟩ | e
    · exact .inr hD
    · exact N.new a o e⟩
  have rV : Rep (F'.put D ⟨.type "list", none, .seq vs.toArray j, #[]⟩) (.ref D) (.list q) := .list Fz.put_self (rD.mono (Fz.le_put Y.fz)) Y.le
  refine wpAny_assign_Name (store_ok NF.st (R.next NF) (X.next NF) hy (by decide) (p := .val (.list q)) rV fun s₂ n₂ R₂ X₂ => ?_)
  have hCs : (F'.put D ⟨.type "list", none, .seq vs.toArray j, #[]⟩) Ca = none := by rw [Fz.put_ne (Ne.symm hne)]; exact hFC
  have hCo : ¬ Own env xs Ca := fun h => by obtain ⟨o, e⟩ := R.ownThere _ h; rw [hC] at e; cases e
  have hCm : Ca ∉ μ.flatten := fun h => by obtain ⟨o, e⟩ := X.there _ h; rw [hC] at e; cases e
  refine ⟨m', hm.at' fun o e => n₂.keep _ _ htC hCo hCm e, fun h' hs => ?_⟩
  have kk : ∀ b o, b ≠ Ca → s₂.heap.get? b = some o → h'.get? b = some o := fun b o ne e => (hs.2 b ne).trans e
  have N₃ := (NF.toS.trans n₂).fresh (tk := s₂.toks) hC hCs htC kk
  exact hQ .next _ _ μ N₃ ⟨trivial, R.other R₂ hC kk, X₂.own hCm kk⟩
end
end Mine
/-! part 11 -/
namespace Mine
open PySem PySem.Calls PyProof.Rows
section
variable {B : Base} {n : Nat} {xs : Names} {gs : List Str}
/-! lists that a frame turns -/
theorem Rd.grow {F : Fz} {μ : Mus} {env : Env} {Γ : Cx} {h h₀ : Heap} {F₀ : Fz} {Γ₀ : Cx} {fp : List Addr} (R₀ : Rd F₀ μ xs gs env Γ₀ h₀) (R : Rd F μ xs gs env Γ h) (ha : ∀ a ∈ fp, h₀.get? a = none) : Rd F (μ ++ [fp]) xs gs env Γ h := by
  have hl : env.locals ∉ fp := fun hm => by obtain ⟨m, o, _, _, e, _⟩ := R₀.loc; rw [ha _ hm] at e; cases e
  have hc : ∀ x c, env.cells.lookup x = some c → c ∉ fp := fun x c e hm => by obtain ⟨v, o, e2, _⟩ := R₀.cel x _ e; rw [ha _ hm] at e2; cases e2
  exact {
    glob := R.glob, bui := R.bui, fn := R.fn, len := R.len, knd := R.knd, gl := R.gl, names := R.names, nodbg := R.nodbg, apart := R.apart, locC := R.locC, loc := R.loc, cel := R.cel
    has := fun i x q p e1 e2 => (R.has i x q p e1 e2).keeps F.le_refl ⟨_, rfl⟩ (fun _ m hn => ⟨m, hn, rfl⟩) fun _ c o e3 e => e
    locF := ⟨R.locF.1, R.locF.2.1, by simp only [List.flatten_append, List.mem_append, List.flatten_cons, List.flatten_nil, List.append_nil]; exact fun h => h.elim R.locF.2.2 hl⟩
    celF := fun x c e => ⟨(R.celF x c e).1, (R.celF x c e).2.1, by simp only [List.flatten_append, List.mem_append, List.flatten_cons, List.flatten_nil, List.append_nil]; exact fun h => h.elim (R.celF x c e).2.2 (hc x c e)⟩ }
theorem Mu.grow {F : Fz} {μ : Mus} {σ : AH} {h : Heap} {fp : List Addr} {o : AO} (X : Mu F μ σ h) (ha : ∀ a ∈ fp, a ∉ μ.flatten) (hn : fp.Nodup) (ht : ∀ a ∈ fp, a ∉ tabs) (hh : ∀ a ∈ fp, ∃ o, h.get? a = some o) (hm : MuAt F h fp o) : Mu F (μ ++ [fp]) (σ ++ [o]) h where
  len := by simp [X.len]
  at' := fun i fp' o' e1 e2 => by
    by_cases hlt : i < μ.length
    · rw [List.getElem?_append_left hlt] at e1
      rw [List.getElem?_append_left (by rw [← X.len]; exact hlt)] at e2
      exact X.at' i fp' o' e1 e2
    · rw [List.getElem?_append_right (Nat.not_lt.mp hlt)] at e1
      rw [List.getElem?_append_right (by rw [← X.len]; exact Nat.not_lt.mp hlt)] at e2
      rw [← X.len] at e2
      cases hi : i - μ.length with
      | zero => rw [hi] at e1 e2; simp at e1 e2; subst e1 e2; exact hm
      | succ k => rw [hi] at e1; simp at e1
  nodup := by
    simp only [List.flatten_append, List.flatten_cons, List.flatten_nil, List.append_nil]
    exact List.nodup_append.mpr ⟨X.nodup, hn, fun a h1 b h2 e => ha b h2 (e ▸ h1)⟩
  notab := fun a h => by
    simp only [List.flatten_append, List.mem_append, List.flatten_cons, List.flatten_nil, List.append_nil] at h
    exact h.elim (X.notab a) (ht a)
  there := fun a h => by
    simp only [List.flatten_append, List.mem_append, List.flatten_cons, List.flatten_nil, List.append_nil] at h
    exact h.elim (X.there a) (hh a)
noncomputable def xmut (i : Nat) (f : El) : S := fun Γ σ => (f Γ σ).map fun l => (.next, Γ.set i (.ref σ.length), σ ++ [.list l])
theorem X_mut {i : Nat} {x : Str} {k : Kd} {pos' pos : Pos} {value : Expr} {f : El} (hx : xs[i]? = some (x, k)) (hk : k ≠ .cap) (h : Fresh B n xs gs (fun env => eval value env) f)
    (hs : ∀ env, swapsWith value (some (.Name x pos')) pos.line env = pure false := by intro _; rfl) : Exec1 B n xs gs (.Assign [.Name x pos'] value pos) (xmut i f) := by
  intro env A F μ Γ σ s r hA S R X hf Q E hQ
  obtain ⟨l, e, rfl⟩ := Option.map_eq_some_iff.mp hf
  refine wpAny_Assign_Name (h env A F μ Γ σ s l hA S R X e _ E fun w s₁ F₁ n₁ r₁ => ?_) (hs env)
  obtain ⟨a, vs, k', rfl, h1, h2, h3, rv, hl⟩ := r₁
  have ha : ∀ b ∈ [a], s.heap.get? b = none := fun b hb => by rw [List.mem_singleton.mp hb]; exact h1
  have R₁ := R.grow (fp := [a]) (R.next n₁) ha
  have hμ : ∀ b ∈ [a], b ∉ μ.flatten := fun b hb hm => by obtain ⟨o, e⟩ := X.there b hm; rw [ha b hb] at e; cases e
  have X₁ := (X.next n₁).grow (fp := [a]) (o := .list l) hμ (by simp) (fun b hb => by rw [List.mem_singleton.mp hb]; exact S.notTab h1) (fun b hb => by rw [List.mem_singleton.mp hb]; exact ⟨_, h3⟩) ⟨a, vs, k', rfl, h2, h3, rv, hl⟩
  have N₁ : SNext B (Own env xs) F μ s F₁ (μ ++ [[a]]) s₁ := ⟨n₁.shape, n₁.ext, n₁.st, ⟨_, rfl⟩, fun b o h1 _ _ e => n₁.keep b o h1 e, fun b o e => (n₁.new b o e).imp id .inl, fun b hb => by
    simp only [List.flatten_append, List.mem_append, List.flatten_cons, List.flatten_nil, List.append_nil] at hb
    exact hb.imp id (ha b), fun b o e => n₁.there e⟩
  refine store_ok n₁.st R₁ X₁ hx hk (p := .ref σ.length) ⟨a, [], rfl, ?_⟩ fun s₂ n₂ R₂ X₂ => hQ _ s₂ F₁ _ (N₁.trans n₂) ⟨trivial, R₂, X₂⟩
  rw [← X.len]; simp
/-- a turned list takes its last shape -/
noncomputable def xfrz (i : Nat) (f : S) : S := fun Γ σ => match Γ[i]? with
  | some (.ref j) => match σ[j]? with
    | some (.list l) => f (Γ.set i (.val (.list l))) (σ.set j .dead)
    | _ => none
  | _ => none
theorem X_frz {i : Nat} {x : Str} {k : Kd} {run : Env → Sem Flow} {f : S} (hx : xs[i]? = some (x, k)) (h : Execs B n xs gs run f) : Execs B n xs gs run (xfrz i f) := by
  intro env A F μ Γ σ s r hA S R X hf Q E hQ
  unfold xfrz at hf
  split at hf
  · rename_i j hj
    split at hf
    · rename_i l hl
      have hlt : j < μ.length := by rw [X.len]; exact (List.getElem?_eq_some_iff.mp hl).1
      obtain ⟨a, vs, k', e1, e2, e3, rv, hlim⟩ := X.at' j _ _ (List.getElem?_eq_getElem hlt) hl
      have hμ : μ[j]? = some [a] := by rw [List.getElem?_eq_getElem hlt, e1]
      have ham := mem_flatten_of hμ (.head _)
      have hta := X.notab a ham
      -- the frozen part grows by this list
      have S' := S.put e3 e2 hta
      have N : SNext B (Own env xs) F μ s (F.put a _) μ s := ⟨⟨s.heap, s.toks, rfl⟩, Fz.le_put e2, S', ⟨[], (List.append_nil _).symm⟩, fun b o _ _ _ e => e, fun b o e => by
        rcases Fz.put_of e with ⟨rfl, _⟩ | e
        · exact .inr (.inr ham)
        · exact .inl e, fun b hb => .inl hb, fun b o e => ⟨o, e⟩⟩
      have ne : ∀ b, b ∉ μ.flatten → b ≠ a := fun b hb e => hb (e ▸ ham)
      have R' : Rd (F.put a ⟨.type "list", none, .seq vs.toArray k', #[]⟩) μ xs gs env (Γ.set i (.val (.list l))) s.heap := {
        glob := R.glob, bui := R.bui, fn := R.fn, knd := R.knd, gl := R.gl, names := R.names, nodbg := R.nodbg, apart := R.apart, locC := R.locC, loc := R.loc, cel := R.cel
        len := by rw [List.length_set]; exact R.len
        has := fun i' y q p e1 e2' => by
          by_cases hij : i = i'
          · subst hij
            have hli : i < Γ.length := (List.getElem?_eq_some_iff.mp hj).1
            rw [List.getElem?_set_self hli] at e2'; cases e2'
            intro _
            have H := R.has i y q _ e1 hj (by simp)
            have key : ∀ v, SlRep F μ v (.ref j) → SlRep (F.put a ⟨.type "list", none, .seq vs.toArray k', #[]⟩) μ v (.val (.list l)) := fun v ⟨b, t, e, e'⟩ => by
              rw [hμ] at e'; cases e'; subst e
              exact .list Fz.put_self (rv.mono (Fz.le_put e2)) hlim
            by_cases hq : q = .loc
            · rw [if_pos hq] at H ⊢
              obtain ⟨m, v, h1, h2, h3⟩ := H
              exact ⟨m, v, h1, h2, key v h3⟩
            · rw [if_neg hq] at H ⊢
              obtain ⟨c, v, h1, h2, h3⟩ := H
              exact ⟨c, v, h1, h2, key v h3⟩
          · rw [List.getElem?_set_ne hij] at e2'
            exact (R.has i' y q p e1 e2').keeps (Fz.le_put e2) ⟨[], (List.append_nil _).symm⟩ (fun _ m hn => ⟨m, hn, rfl⟩) fun _ c o _ e => e
        locF := ⟨by rw [Fz.put_ne (ne _ R.locF.2.2)]; exact R.locF.1, R.locF.2⟩
        celF := fun y c e => ⟨by rw [Fz.put_ne (ne _ (R.celF y c e).2.2)]; exact (R.celF y c e).1, (R.celF y c e).2⟩ }
      have X' : Mu (F.put a ⟨.type "list", none, .seq vs.toArray k', #[]⟩) μ (σ.set j .dead) s.heap := {
        len := by rw [List.length_set]; exact X.len
        nodup := X.nodup, notab := X.notab, there := X.there
        at' := fun i' fp o e4 e5 => by
          by_cases hij : j = i'
          · subst hij
            rw [List.getElem?_set_self (by rw [← X.len]; exact hlt)] at e5; cases e5
            trivial
          · rw [List.getElem?_set_ne hij] at e5
            refine (X.at' i' fp o e4 e5).keeps (Fz.le_put e2) (fun b hb hF => ?_) fun b hb o e => e
            rw [Fz.put_ne]
            · exact hF
            · rintro rfl
              -- the same address in two places
              have hli : i' < μ.length := (List.getElem?_eq_some_iff.mp e4).1
              have hp := (List.pairwise_flatten.mp X.nodup).2
              rw [List.pairwise_iff_getElem] at hp
              have e6 : μ[j] = [b] := (List.getElem?_eq_some_iff.mp hμ).2
              have e7 : μ[i'] = fp := (List.getElem?_eq_some_iff.mp e4).2
              rcases Nat.lt_or_gt_of_ne hij with h | h
              · have := hp j i' hlt hli h
                rw [e6, e7] at this
                exact this b (.head _) b hb rfl
              · have := hp i' j hli hlt h
                rw [e6, e7] at this
                exact this b hb b (.head _) rfl }
      exact h env A _ μ _ _ s r hA S' R' X' hf Q E fun v s₁ F₁ μ₁ n₁ r₁ => hQ v s₁ F₁ μ₁ (N.trans n₁) r₁
    · cases hf
  · cases hf
/-- another object of the frame's: what the place j held turns -/
theorem Mu.turn {F : Fz} {μ : Mus} {σ : AH} {h h' : Heap} {j : Nat} {a : Addr} {o : AO} {fp : List Addr} (X : Mu F μ σ h) (hj : μ[j]? = some fp) (ha : a ∈ fp) (k : ∀ b o, b ≠ a → h.get? b = some o → h'.get? b = some o) (hh : ∃ o, h'.get? a = some o) (hm : MuAt F h' fp o) :
    Mu F μ (σ.set j o) h' where
  len := by rw [List.length_set]; exact X.len
  nodup := X.nodup
  notab := X.notab
  there := fun b hb => by
    by_cases e : b = a
    · subst e; exact hh
    · obtain ⟨o, e2⟩ := X.there b hb; exact ⟨o, k b o e e2⟩
  at' := fun i fp' o' e1 e2 => by
    by_cases hij : j = i
    · subst hij
      rw [hj] at e1; cases e1
      by_cases hlt : j < σ.length
      · rw [List.getElem?_set_self hlt] at e2; cases e2; exact hm
      · exact absurd (by rw [← X.len]; exact (List.getElem?_eq_some_iff.mp hj).1) hlt
    · rw [List.getElem?_set_ne hij] at e2
      refine (X.at' i fp' o' e1 e2).keeps F.le_refl (fun _ _ e => e) fun b hb o e => k b o ?_ e
      rintro rfl
      have hlj : j < μ.length := (List.getElem?_eq_some_iff.mp hj).1
      have hli : i < μ.length := (List.getElem?_eq_some_iff.mp e1).1
      have hp := (List.pairwise_flatten.mp X.nodup).2
      rw [List.pairwise_iff_getElem] at hp
      have e6 : μ[j] = fp := (List.getElem?_eq_some_iff.mp hj).2
      have e7 : μ[i] = fp' := (List.getElem?_eq_some_iff.mp e1).2
      rcases Nat.lt_or_gt_of_ne hij with h | h
      · have := hp j i hlj hli h
        rw [e6, e7] at this
        exact this b ha b hb rfl
      · have := hp i j hli hlj h
        rw [e6, e7] at this
        exact this b hb b ha rfl
/-- a name that holds a list which may turn -/
theorem name_ref {A : Around} {F : Fz} {μ : Mus} {σ : AH} {env : Env} {Γ : Cx} {s : Shared} {i j : Nat} {x : Str} {k : Kd} {pos : Pos} {l : List V} {Q : Value → Shared → Prop} {E : Value → Shared → Prop} (R : Rd F μ xs gs env Γ s.heap) (X : Mu F μ σ s.heap)
    (hx : xs[i]? = some (x, k)) (hj : Γ[i]? = some (.ref j)) (hl : σ[j]? = some (.list l))
    (h : ∀ a vs m, μ[j]? = some [a] → a ∈ μ.flatten → F a = none → s.heap.get? a = some ⟨.type "list", none, .seq vs.toArray m, #[]⟩ → Reps F vs l → l.length ≤ lim → Q (.ref a) s) : wpAny (model prg B.w) A (eval (.Name x pos) env) Q E s := by
  refine wpAny_Name (loadName_has R hx hj (by simp) fun v r => ?_) (R.nodbg x k (List.mem_of_getElem? hx)).1
  obtain ⟨a, t, rfl, e⟩ := r
  obtain ⟨a', vs, m, e1, e2, e3, r, hlim⟩ := X.at' j _ _ e hl
  cases e1
  exact h a vs m e (mem_flatten_of e (.head _)) e2 e3 r hlim
noncomputable def asList (Γ : Cx) (σ : AH) (i : Nat) : Option (Nat × List V) := match Γ[i]? with
  | some (.ref j) => match σ[j]? with
    | some (.list l) => some (j, l)
    | _ => none
  | _ => none
theorem asList_some {Γ : Cx} {σ : AH} {i j : Nat} {l : List V} (h : asList Γ σ i = some (j, l)) : Γ[i]? = some (.ref j) ∧ σ[j]? = some (.list l) := by
  unfold asList at h
  split at h
  · rename_i q e1
    split at h
    · rename_i e2; cases h; exact ⟨e1, e2⟩
    · cases h
  · cases h
/-- «x.append(e)» -/
noncomputable def xappend (i : Nat) (f : E) : S := fun Γ σ => (asList Γ σ i).bind fun p => (f Γ σ).bind fun v => if p.2.length + 1 ≤ lim then some (.next, Γ, σ.set p.1 (.list (p.2 ++ [v]))) else none
theorem X_append {i : Nat} {x : Str} {k : Kd} {e : Expr} {px apos pos pos' : Pos} {f : E} (hx : xs[i]? = some (x, k)) (h : Evals B n xs gs (fun env => eval e env) f) (hline : (apos.endLine == pos.line) = true := by rfl)
    (he : ∀ env, starEach [e] env = [(false, eval e env)] := by intro _; rfl) :
    Exec1 B n xs gs (.Expr (.Call (.Attribute (.Name x px) "append" apos) [e] [] pos) pos') (xappend i f) := by
  intro env A F μ Γ σ s r hA S R X hf Q E hQ
  obtain ⟨⟨j, l⟩, ej, hf⟩ := Option.bind_eq_some_iff.mp hf
  obtain ⟨v, ev, hf⟩ := Option.bind_eq_some_iff.mp hf
  split at hf
  · rename_i hlim
    cases hf
    obtain ⟨hj, hl⟩ := asList_some ej
    refine wpAny_Expr ?_ (by unfold interactive; rw [R.fn]; rfl) rfl
    refine wpAny_Call_method (T := "list") (id := "list.append") rfl (by rw [he]; rfl) hline PySem.F.plainAttrs_list slot_list_append PySem.F.type_list_append (name_ref R X hx hj hl fun a vs m e1 e2 e3 e4 r hl' => ?_)
    refine ⟨⟨_, e4, rfl⟩, fun b e => by cases e; exact ⟨_, e4, rfl⟩, ?_⟩
    refine callWith_any (by rw [he]; rfl) (wpAny_items_cons (h env A F μ Γ σ s v hA S R X ev _ E fun w s₁ F₁ n₁ r₁ => wpAny_items_nil ?_) (he env))
    refine Keep.builtin A F₁ s₁ _ E n₁.st fun _ => ⟨rfl, ?_⟩
    have hta := X.notab a e2
    have e5 := n₁.keep _ _ hta e4
    refine wpAny_list_append_plain ⟨m, e5⟩ (fun h' hp hs => ?_) (by rw [List.size_toArray, r.length]; exact lim_size hl')
    obtain ⟨m', ep⟩ := hp
    have kk : ∀ b o, b ≠ a → s₁.heap.get? b = some o → h'.get? b = some o := fun b o ne e => (hs.2 b ne).trans e
    have hFa := n₁.away e3 ⟨_, e4⟩
    refine hQ _ _ F₁ μ (n₁.toS.trans (snext_change (tk := s₁.toks) n₁.st (.inr e2) hFa hta kk ⟨_, ep⟩)) ⟨trivial, (R.next n₁).mut e2 kk, (X.next n₁).turn e1 (.head _) kk ⟨_, ep⟩ ⟨a, vs ++ [w], m', rfl, hFa, by simpa using ep, (r.mono n₁.ext).snoc r₁, by simpa using hlim⟩⟩
  · cases hf
/-- «x.reverse()» -/
noncomputable def xreverse (i : Nat) : S := fun Γ σ => (asList Γ σ i).map fun p => (.next, Γ, σ.set p.1 (.list p.2.reverse))
theorem X_reverse {i : Nat} {x : Str} {k : Kd} {px apos pos pos' : Pos} (hx : xs[i]? = some (x, k)) (hline : (apos.endLine == pos.line) = true := by rfl) :
    Exec1 B n xs gs (.Expr (.Call (.Attribute (.Name x px) "reverse" apos) [] [] pos) pos') (xreverse i) := by
  intro env A F μ Γ σ s r hA S R X hf Q E hQ
  obtain ⟨⟨j, l⟩, ej, rfl⟩ := Option.map_eq_some_iff.mp hf
  obtain ⟨hj, hl⟩ := asList_some ej
  refine wpAny_Expr ?_ (by unfold interactive; rw [R.fn]; rfl) rfl
  refine wpAny_Call_method (T := "list") (id := "list.reverse") rfl rfl hline PySem.F.plainAttrs_list PySem.F.slot_list_reverse PySem.F.type_list_reverse (name_ref R X hx hj hl fun a vs m e1 e2 e3 e4 r hl' => ?_)
  refine ⟨⟨_, e4, rfl⟩, fun b e => by cases e; exact ⟨_, e4, rfl⟩, ?_⟩
  refine callWith_any rfl (wpAny_items_nil ?_)
  refine Keep.builtin A F s _ E S fun _ => ⟨rfl, ?_⟩
  have hta := X.notab a e2
  refine call_meets PySem.F.slot_list_reverse ⟨_, e4, rfl⟩ PySem.F.entry_list_reverse (PySem.F.args_list_reverse_1 _) (AutoListH.list_reverse_list_0 a vs.toArray m (by rw [List.size_toArray, r.length]; exact lim_size hl')) ⟨e4, ?_⟩
  have ho : Obj.mapSeq (fun x => x.reverse) ⟨.type "list", none, .seq vs.toArray m, #[]⟩ = ⟨.type "list", none, .seq vs.reverse.toArray m, #[]⟩ := by
    simp [Obj.mapSeq]
  have ep : (s.heap.update a (Obj.mapSeq fun x => x.reverse)).get? a = some ⟨.type "list", none, .seq vs.reverse.toArray m, #[]⟩ := by
    rw [Heap.get?_update_self _ e4 (by rw [ho]; rfl), ho]
  have kk : ∀ b o, b ≠ a → s.heap.get? b = some o → (s.heap.update a (Obj.mapSeq fun x => x.reverse)).get? b = some o := fun b o ne e => by rw [Heap.get?_update_ne _ _ _ _ ne]; exact e
  exact hQ _ _ F μ (snext_change (tk := s.toks) S (.inr e2) e3 hta kk ⟨_, ep⟩) ⟨trivial, R.mut e2 kk, X.turn e1 (.head _) kk ⟨_, ep⟩ ⟨a, vs.reverse, m, rfl, e3, ep, r.reverse, by simpa using hl'⟩⟩
/-- storing an item -/
theorem setItem_plain {A : Around} {s : Shared} {a : Addr} {vs : List Value} {m : Nat} {k : Int} {t : Tok} {v : Value} {Q : Unit → Shared → Prop} {E : Value → Shared → Prop} (hg : s.heap.get? a = some ⟨.type "list", none, .seq vs.toArray m, #[]⟩) (h0 : 0 ≤ k) (hfit : k < 2 ^ 63) (hn : k < vs.length)
    (hQ : ∀ h', h'.get? a = some ⟨.type "list", none, .seq (vs.set k.toNat v).toArray m, #[]⟩ → Heap.SameBut a s.heap h' → Q () { s with heap := h' }) : wpAny (model prg B.w) A (setItem (.ref a) (.int k t) v) Q E s := by
  have hl := isList_of hg
  unfold setItem
  refine wpAny_holding ?_
  refine wpAny_bind (wpAny_sequenceKey hl.typeIs (by decide) ?_)
  refine wpAny_bind (wpAny_callSpecial?_slot (name := Str.ofString "__setitem__") hl.typeIs slot_list_setitem
    (wpAny_call_entry slot_list_setitem hl.typeIs entry_list_setitem ?_ (args_list_setitem _ _ _)))
  show wpAny _ _ (Builtin.List.listSubscript? (.int k t) >>= _) _ _ s
  refine wpAny_bind (wpAny_listSubscript_int (fitsIndex_of h0 hfit) ?_)
  obtain ⟨j, rfl⟩ := Int.eq_ofNat_of_zero_le h0
  have hj : j < vs.toArray.size := by simp; omega
  show wpAny _ _ ((seqItemAt a j >>= fun r => pure (r.map (j, ·))) >>= _) _ _ s
  refine wpAny_bind (wpAny_bind (wpAny_seqItemAt hg rfl (wpAny_pure ?_)))
  rw [Array.getElem?_eq_getElem hj]
  show wpAny _ _ (setSeqItemAt a j v >>= _) _ _ s
  have ho : Obj.mapSeq (·.setIfInBounds j v) ⟨.type "list", none, .seq vs.toArray m, #[]⟩ = ⟨.type "list", none, .seq (vs.set j v).toArray m, #[]⟩ := by simp [Obj.mapSeq]
  have ep : (s.heap.update a (Obj.mapSeq (·.setIfInBounds j v))).get? a = some ⟨.type "list", none, .seq (vs.set j v).toArray m, #[]⟩ := by
    rw [Heap.get?_update_self _ hg (by rw [ho]; rfl), ho]
  refine wpAny_bind (wpAny_setSeqItemAt hg rfl ?_)
  exact wpAny_pure ⟨.none, rfl, wpAny_pure (hQ _ ep (Heap.SameBut.update ..))⟩
noncomputable def xsetitem (i : Nat) (f g : E) : S := fun Γ σ => (f Γ σ).bind fun v => (asList Γ σ i).bind fun p => (g Γ σ).bind fun k => match k with
  | .int k => if 0 ≤ k ∧ k < p.2.length then some (.next, Γ, σ.set p.1 (.list (p.2.set k.toNat v))) else none
  | _ => none
theorem X_setitem {i : Nat} {x : Str} {k : Kd} {idx value : Expr} {px spos pos : Pos} {f g : E} (hx : xs[i]? = some (x, k)) (hv : Evals B n xs gs (fun env => eval value env) f) (hi : Evals B n xs gs (fun env => eval idx env) g)
    (hs : ∀ env, swapsWith value (some (.Subscript (.Name x px) idx spos)) pos.line env = pure false := by intro _; rfl) : Exec1 B n xs gs (.Assign [.Subscript (.Name x px) idx spos] value pos) (xsetitem i f g) := by
  intro env A F μ Γ σ s r hA S R X hf Q E hQ
  obtain ⟨v, ev, hf⟩ := Option.bind_eq_some_iff.mp hf
  obtain ⟨⟨j, l⟩, ej, hf⟩ := Option.bind_eq_some_iff.mp hf
  obtain ⟨kv, ek, hf⟩ := Option.bind_eq_some_iff.mp hf
  have hf2 : ∃ k', kv = .int k' ∧ (if 0 ≤ k' ∧ k' < l.length then some (Fl.next, Γ, σ.set j (.list (l.set k'.toNat v))) else none) = some r := by
    cases kv <;> first | exact ⟨_, rfl, hf⟩ | cases hf
  clear hf
  obtain ⟨k', rfl, hf⟩ := hf2
  split at hf
  · rename_i hk
    cases hf
    obtain ⟨hj, hl⟩ := asList_some ej
    refine wpAny_Assign_Subscript (hv env A F μ Γ σ s v hA S R X ev _ E fun w s₁ F₁ n₁ r₁ => ?_) (hs env)
    refine name_ref (R.next n₁) (X.next n₁) hx hj hl fun a vs m e1 e2 e3 e4 r hl' => ?_
    refine hi env A F₁ μ Γ σ s₁ _ hA n₁.st (R.next n₁) (X.next n₁) ek _ E fun iv s₂ F₂ n₂ r₂ => ?_
    obtain ⟨t2, rfl⟩ := rep_int r₂
    have hta := X.notab a e2
    have e5 := n₂.keep _ _ hta e4
    have hFa := n₂.away e3 ⟨_, e4⟩
    have hlen := r.length
    refine setItem_plain e5 hk.1 (by have := lim_fits hl'; omega) (by omega) fun h' ep hs => ?_
    have kk : ∀ b o, b ≠ a → s₂.heap.get? b = some o → h'.get? b = some o := fun b o ne e => (hs.2 b ne).trans e
    refine hQ _ _ F₂ μ ((n₁.toS.trans n₂.toS).trans (snext_change (tk := s₂.toks) n₂.st (.inr e2) hFa hta kk ⟨_, ep⟩)) ⟨trivial, ((R.next n₁).next n₂).mut e2 kk, ((X.next n₁).next n₂).turn e1 (.head _) kk ⟨_, ep⟩
      ⟨a, vs.set k'.toNat w, m, rfl, hFa, ep, (r.mono n₂.ext).set _ (r₁.mono n₂.ext), by simpa using hl'⟩⟩
  · cases hf
/-- «x += e» -/
noncomputable def Opi (B : Base) (n : Nat) (op : Operator) (h : V → V → Option V) : Prop := Op2 B n (inplaceOp op) h
theorem iadd_ok : Opi B n .Add (int2 fun a b => some (.int (a + b))) := int2_ok fun A F s a b t u r hA S e Q E hQ => by cases e; exact PySem.P.iadd_int (hQ _ _ F (.toks S _) (.int _ _))
theorem isub_ok : Opi B n .Sub (int2 fun a b => some (.int (a - b))) := int2_ok fun A F s a b t u r hA S e Q E hQ => by cases e; exact PySem.P.isub_int (hQ _ _ F (.toks S _) (.int _ _))
theorem X_aug {i : Nat} {x : Str} {k : Kd} {op : Operator} {px pos : Pos} {value : Expr} {f : E} {h : V → V → Option V} (hx : xs[i]? = some (x, k)) (hk : k ≠ .cap) (ho : Opi B n op h) (hv : Evals B n xs gs (fun env => eval value env) f) :
    Exec1 B n xs gs (.AugAssign (.Name x px) op value pos) (xset i (p2 h (pv i) f)) := by
  intro env A F μ Γ σ s r hA S R X hf Q E hQ
  obtain ⟨v, e, rfl⟩ := Option.map_eq_some_iff.mp hf
  obtain ⟨a, ea, e⟩ := Option.bind_eq_some_iff.mp e
  obtain ⟨b, eb, e⟩ := Option.bind_eq_some_iff.mp e
  unfold pv at ea
  split at ea
  · rename_i p hp
    cases ea
    refine wpAny_AugAssign_Name (loadName_has R hx hp (by simp) fun va ra => ?_)
    refine hv env A F μ Γ σ s b hA S R X eb _ E fun vb s₁ F₁ n₁ rb => ?_
    refine ho A F₁ s₁ va vb _ b v hA n₁.st (Rep.mono n₁.ext ra) rb e _ E fun w s₂ F₂ n₂ rw => ?_
    exact store_ok n₂.st ((R.next n₁).next n₂) ((X.next n₁).next n₂) hx hk (p := .val v) rw fun s₃ n₃ R₃ X₃ => hQ _ s₃ F₂ μ ((n₁.toS.trans n₂.toS).trans n₃) ⟨trivial, R₃, X₃⟩
  · cases ea
/-- «x, y = f(..)» -/
noncomputable def xset2t (i j : Nat) (f : E) : S := fun Γ σ => match f Γ σ with
  | some (.tup [p, q]) => some (.next, (Γ.set i (.val p)).set j (.val q), σ)
  | _ => none
theorem X_tup2 {i j : Nat} {x y : Str} {k k' : Kd} {px py tpos pos : Pos} {ek : Nat} {value : Expr} {f : E} (hx : xs[i]? = some (x, k)) (hk : k ≠ .cap) (hy : xs[j]? = some (y, k')) (hk' : k' ≠ .cap) (h : Evals B n xs gs (fun env => eval value env) f)
    (hw : ∀ env, swappedStores [.Tuple [.Name x px, .Name y py] ek tpos] value env = pure none := by intro _; rfl) (hs : ∀ env, swapsWithSole [.Tuple [.Name x px, .Name y py] ek tpos] value pos.line env = pure false := by intro _; rfl) :
    Exec1 B n xs gs (.Assign [.Tuple [.Name x px, .Name y py] ek tpos] value pos) (xset2t i j f) := by
  intro env A F μ Γ σ s r hA S R X hf Q E hQ
  unfold xset2t at hf
  split at hf
  · rename_i p q ef
    cases hf
    refine Assign_Tuple (h env A F μ Γ σ s _ hA S R X ef _ E fun w s₁ F₁ n₁ r₁ => ?_) (hs env) (hw env)
    obtain ⟨a, v1, v2, m, rfl, e1, rp, rq⟩ := rep_pair r₁
    have hg := n₁.st.sub _ _ e1
    refine wpAny_assign_Tuple hA.handled ⟨_, hg, rfl, _, rfl⟩ rfl rfl fun h' he => ?_
    have kk : ∀ b o, s₁.heap.get? b = some o → h'.get? b = some o := fun b o e => he b o (Nat.ne_of_lt (Heap.lt_size e)) e
    have n₂ : Next B F₁ s₁ F₁ { s₁ with heap := h' } := Next.keeps (t := s₁.toks) n₁.st kk
    show wpAny _ _ (do holding _ (assign (.Name x px) env v1); holding _ (assign (.Name y py) env v2); pure ()) _ _ _
    refine wpAny_bind (wpAny_holding (wpAny_assign_Name (store_ok n₂.st ((R.next n₁).next n₂) ((X.next n₁).next n₂) hx hk (p := .val p) rp fun s₃ n₃ R₃ X₃ => ?_)))
    refine wpAny_bind (wpAny_holding (wpAny_assign_Name (store_ok n₃.st R₃ X₃ hy hk' (p := .val q) rq fun s₄ n₄ R₄ X₄ => ?_)))
    exact wpAny_pure (hQ _ s₄ F₁ μ (((n₁.toS.trans n₂.toS).trans n₃).trans n₄) ⟨trivial, R₄, X₄⟩)
  · cases hf
/-- «x, y = (y, x)» -/
theorem X_swap2 {i j : Nat} {x y : Str} {px py tpos tpos' pos : Pos} {ek ek' : Nat} {e₁ e₂ : Expr} {f : E} (hx : xs[i]? = some (x, .loc)) (hy : xs[j]? = some (y, .loc)) (h : Evals B n xs gs (fun env => eval (.Tuple [e₁, e₂] ek' tpos') env) f)
    (hij : i ≠ j)
    (hw : ∀ env, env.blockKind = .function → env.kindOf x = some .local → env.kindOf y = some .local → swappedStores [.Tuple [.Name x px, .Name y py] ek tpos] (.Tuple [e₁, e₂] ek' tpos') env = pure (some [x, y])) :
    Exec1 B n xs gs (.Assign [.Tuple [.Name x px, .Name y py] ek tpos] (.Tuple [e₁, e₂] ek' tpos') pos) (xset2t i j f) := by
  intro env A F μ Γ σ s r hA S R X hf Q E hQ
  unfold xset2t at hf
  split at hf
  · rename_i p q ef
    cases hf
    have hb : env.blockKind = .function := by unfold Env.blockKind; rw [R.fn]; rfl
    refine Assign_Tuple_swapped (h env A F μ Γ σ s _ hA S R X ef _ E fun w s₁ F₁ n₁ r₁ => ?_) rfl (hw env hb (R.knd x .loc (List.mem_of_getElem? hx)) (R.knd y .loc (List.mem_of_getElem? hy)))
    obtain ⟨a, v1, v2, m, rfl, e1, rp, rq⟩ := rep_pair r₁
    have hg := n₁.st.sub _ _ e1
    refine wpAny_unpackItems_tuple (items := [v1, v2].toArray) hA.handled ⟨_, hg, rfl, _, rfl⟩ fun h' he => ?_
    have kk : ∀ b o, s₁.heap.get? b = some o → h'.get? b = some o := fun b o e => he b o (Nat.ne_of_lt (Heap.lt_size e)) e
    have n₂ : Next B F₁ s₁ F₁ { s₁ with heap := h' } := Next.keeps (t := s₁.toks) n₁.st kk
    show wpAny _ _ (do holding _ (bindName env y v2); holding _ (bindName env x v1); pure ()) _ _ _
    refine wpAny_bind (wpAny_holding (wpAny_bindName (store_ok n₂.st ((R.next n₁).next n₂) ((X.next n₁).next n₂) hy (by decide) (p := .val q) rq fun s₃ n₃ R₃ X₃ => ?_)))
    refine wpAny_bind (wpAny_holding (wpAny_bindName (store_ok n₃.st R₃ X₃ hx (by decide) (p := .val p) rp fun s₄ n₄ R₄ X₄ => ?_)))
    refine wpAny_pure (hQ _ s₄ F₁ μ (((n₁.toS.trans n₂.toS).trans n₃).trans n₄) ⟨trivial, ?_, X₄⟩)
    rw [List.set_comm _ _ hij]; exact R₄
  · cases hf
end
end Mine
/-! part 12 -/
namespace Mine
open PySem PySem.Calls PyProof.Rows
/-! checks of scopes -/
noncomputable def okNames (ys : Names) : Bool := decide ((ys.map (·.1)).Nodup) && ys.all fun y => y.1 != Str.ofString "__debug__" && y.1 != Str.ofString "__classdict__"
noncomputable def fscopeOk (scope : Scope) (xs : Names) (gs : List Str) : Bool :=
  scope.kind == .function && !scope.isCoroutine && !scope.isGenerator && okNames xs && (xs.all fun y => (y.2 == .loc && scope.names.lookup y.1 == some .local) || (y.2 == .own && scope.names.lookup y.1 == some .cell)) &&
    gs.all fun x => scope.names.lookup x == some .globalImplicit
structure FScope (scope : Scope) (xs : Names) (gs : List Str) : Prop where
  kind : scope.kind = .function
  co : scope.isCoroutine = false
  gen : scope.isGenerator = false
  knd : ∀ x k, (x, k) ∈ xs → (k = .loc ∧ scope.names.lookup x = some .local) ∨ (k = .own ∧ scope.names.lookup x = some .cell)
  names : (xs.map (·.1)).Nodup
  nodbg : ∀ x k, (x, k) ∈ xs → (x == ("__debug__" : Str)) = false ∧ (x == ("__classdict__" : Str)) = false
  glob : ∀ x ∈ gs, scope.names.lookup x = some .globalImplicit
theorem okNames_of {ys : Names} (h : okNames ys = true) : (ys.map (·.1)).Nodup ∧ ∀ x k, (x, k) ∈ ys → (x == ("__debug__" : Str)) = false ∧ (x == ("__classdict__" : Str)) = false := by
  unfold okNames at h
  obtain ⟨h1, h2⟩ := Bool.and_eq_true_iff.mp h
  refine ⟨of_decide_eq_true h1, fun x k hm => ?_⟩
  have := List.all_eq_true.mp h2 _ hm
  obtain ⟨h3, h4⟩ := Bool.and_eq_true_iff.mp this
  exact ⟨by simpa using h3, by simpa using h4⟩
theorem fscope_of {scope : Scope} {xs : Names} {gs : List Str} (h : fscopeOk scope xs gs = true) : FScope scope xs gs := by
  unfold fscopeOk at h
  simp only [Bool.and_eq_true] at h
  obtain ⟨⟨⟨⟨⟨h1, h2⟩, h3⟩, h4⟩, h5⟩, h6⟩ := h
  obtain ⟨n1, n2⟩ := okNames_of h4
  refine ⟨by simpa using h1, by simpa using h2, by simpa using h3, fun x k hm => ?_, n1, n2, fun x hx => by simpa using List.all_eq_true.mp h6 x hx⟩
  have := List.all_eq_true.mp h5 _ hm
  rcases Bool.or_eq_true_iff.mp this with q | q
  · obtain ⟨q1, q2⟩ := Bool.and_eq_true_iff.mp q
    exact .inl ⟨by simpa using q1, by simpa using q2⟩
  · obtain ⟨q1, q2⟩ := Bool.and_eq_true_iff.mp q
    exact .inr ⟨by simpa using q1, by simpa using q2⟩
noncomputable def cscopeOk (scope : Scope) (xs ys : Names) (hs : List Str) (m : Nat) (js : List Nat) : Bool :=
  scope.kind == .function && (scope.names.all fun y => (y.2 != .local && y.2 != .cell) || scope.names.lookup y.1 == some y.2) && ys.length == m + js.length && okNames ys &&
    ((ys.take m).all fun y => (y.2 == .loc && scope.names.lookup y.1 == some .local) || (y.2 == .own && scope.names.lookup y.1 == some .cell)) &&
    ((List.range js.length).all fun i => match ys[m + i]?, js[i]? with
      | some y, some j => y.2 == .cap && scope.names.lookup y.1 == some .free && (match xs[j]? with | some z => z.1 == y.1 && z.2 != .loc | none => false)
      | _, _ => false) &&
    (scope.names.all fun y => y.2 != .free || ys.contains (y.1, Kd.cap)) && hs.all fun x => scope.names.lookup x == some .globalImplicit
theorem cscope_of {scope : Scope} {xs ys : Names} {hs : List Str} {m : Nat} {js : List Nat} (h : cscopeOk scope xs ys hs m js = true) : CScope scope xs ys hs m js := by
  unfold cscopeOk at h
  simp only [Bool.and_eq_true] at h
  obtain ⟨⟨⟨⟨⟨⟨⟨h1, h2⟩, h3⟩, h4⟩, h5⟩, h6⟩, h7⟩, h8⟩ := h
  obtain ⟨n1, n2⟩ := okNames_of h4
  have h3 : ys.length = m + js.length := by simpa using h3
  refine ⟨by simpa using h1, fun y hy e => ?_, fun x hx => ?_, h3, fun i x k hi e => ?_, fun i x k e => ?_, fun x hx => ?_, n1, n2, fun x hx => by simpa using List.all_eq_true.mp h8 x hx⟩
  · have := List.all_eq_true.mp h2 y hy
    rw [e] at this
    simpa using this
  · have := List.all_eq_true.mp h2 _ hx
    simpa using this
  · have hm : (x, k) ∈ ys.take m := List.mem_of_getElem? (i := i) (by rw [List.getElem?_take_of_lt hi]; exact e)
    have := List.all_eq_true.mp h5 _ hm
    rcases Bool.or_eq_true_iff.mp this with q | q
    · obtain ⟨q1, q2⟩ := Bool.and_eq_true_iff.mp q
      exact .inl ⟨by simpa using q1, by simpa using q2⟩
    · obtain ⟨q1, q2⟩ := Bool.and_eq_true_iff.mp q
      exact .inr ⟨by simpa using q1, by simpa using q2⟩
  · have hi : i < js.length := by have := (List.getElem?_eq_some_iff.mp e).1; (first | lia | omega)
    have := List.all_eq_true.mp h6 i (List.mem_range.mpr hi)
    rw [e, List.getElem?_eq_getElem hi] at this
    simp only [Bool.and_eq_true] at this
    obtain ⟨⟨q1, q2⟩, q3⟩ := this
    refine ⟨by simpa using q1, by simpa using q2, js[i], ?_⟩
    split at q3
    · rename_i z hz
      obtain ⟨q4, q5⟩ := Bool.and_eq_true_iff.mp q3
      have q4 : z.1 = x := by simpa using q4
      exact ⟨z.2, List.getElem?_eq_getElem hi, by rw [hz, ← q4], by simpa using q5⟩
    · cases q3
  · have := List.all_eq_true.mp h7 _ hx
    simpa using this
/-! calls of the text's defs -/
theorem bindL_not {kindOf : Str → Option NameKind} {x : Str} : ∀ (l : List (Str × Value)) (m : Str → Option Value), x ∉ l.map (·.1) → bindL kindOf l m x = m x
  | [], _, _ => rfl
  | (y, v) :: r, m, h => by
    unfold bindL
    have hne : x ≠ y := fun e => h (by rw [e]; exact .head _)
    rw [bindL_not r _ fun hm => h (.tail _ hm)]
    split
    · exact if_neg hne
    · rfl
theorem bindC_not {kindOf : Str → Option NameKind} {x : Str} : ∀ (l : List (Str × Value)) (m : Str → Option Value), x ∉ l.map (·.1) → bindC kindOf l m x = m x
  | [], _, _ => rfl
  | (y, v) :: r, m, h => by
    unfold bindC
    have hne : x ≠ y := fun e => h (by rw [e]; exact .head _)
    rw [bindC_not r _ fun hm => h (.tail _ hm)]
    split
    · rfl
    · exact if_neg hne
theorem bindL_at {kindOf : Str → Option NameKind} {x : Str} {v : Value} : ∀ (l : List (Str × Value)) (m : Str → Option Value), (l.map (·.1)).Nodup → (x, v) ∈ l → kindOf x = some .local → bindL kindOf l m x = some v
  | (y, w) :: r, m, hn, hm, hk => by
    unfold bindL
    rw [List.map_cons, List.nodup_cons] at hn
    rcases List.mem_cons.mp hm with e | hm
    · cases e
      rw [bindL_not r _ hn.1, if_pos hk]
      exact if_pos rfl
    · exact bindL_at r _ hn.2 hm hk
theorem bindC_at {kindOf : Str → Option NameKind} {x : Str} {v : Value} : ∀ (l : List (Str × Value)) (m : Str → Option Value), (l.map (·.1)).Nodup → (x, v) ∈ l → kindOf x = some .cell → bindC kindOf l m x = some v
  | (y, w) :: r, m, hn, hm, hk => by
    unfold bindC
    rw [List.map_cons, List.nodup_cons] at hn
    rcases List.mem_cons.mp hm with e | hm
    · cases e
      rw [bindC_not r _ hn.1, if_neg (by rw [hk]; decide)]
      exact if_pos rfl
    · exact bindC_at r _ hn.2 hm hk
noncomputable def retV : Fl × Cx × AH → Option V
  | (.ret v, _, _) => some v
  | (.next, _, _) => some .none
  | _ => none
noncomputable def pfn (xs : Names) (np : Nat) (g : S) : List V → Option V := fun ps => if ps.length = np then (g (ps.map .val ++ List.replicate (xs.length - np) .undef) []).bind retV else none
section
variable {B : Base} {n : Nat} {xs : Names} {gs : List Str}
theorem Reps.zipGet {F : Fz} {vs : List Value} {ps : List V} (r : Reps F vs ps) {i : Nat} {p : V} (e : ps[i]? = some p) : ∃ v, vs[i]? = some v ∧ Rep F v p := r.get' e
theorem fn_ok {a : Addr} {o : Obj} {fd : FuncData} {body : List Stmt} {np : Nat} {g : S} (hlim : B.h₁.NoLimit) (ho : B.h₁.get? a = some o) (hd : o.data = .func fd) (hbody : fd.body = .stmts body) (hclo : fd.closure = []) (hgl : fd.globals = mainGlobals) (hbu : fd.builtins = builtinsNs)
    (hcd : B.h₁.CodeRec fd.code fd.qualname) (hsc : FScope fd.scope xs gs) (hnp : np ≤ xs.length) (hbind : ∀ vals : List Value, vals.length = np → bindArgs fd ⟨vals, []⟩ = pure (((xs.map (·.1)).take np).zip vals)) (h : ExecL B n xs gs body g) :
    FnOk B (n + 1) (.ref a) (pfn xs np g) := by
  intro A F s vals ps p hA S r hf Q E hQ
  unfold pfn at hf
  split at hf
  · rename_i hlen
    obtain ⟨⟨fl, Γ', σ'⟩, eg, hf⟩ := Option.bind_eq_some_iff.mp hf
    have hvl : vals.length = np := by rw [r.length]; exact hlen
    have kb : ∀ b o, B.h₁.get? b = some o → s.heap.get? b = some o := fun b o e => S.sub _ _ (S.base _ _ e)
    refine wpAny_call (codeAny_call_cells (by have := hA.depth; (first | lia | omega)) (kb _ _ ho) hd (hlim.keeps kb) (hcd.keeps kb) hbody (hbind vals hvl) hclo (fun x hx => ?_) (fun s₁ x => ?_) hsc.co hsc.gen hsc.kind)
    · -- the parameters' kinds
      have hx1 : x.1 ∈ xs.map (·.1) := List.mem_of_mem_take (List.of_mem_zip (a := x.1) (b := x.2) hx).1
      obtain ⟨⟨y, k⟩, hy, e⟩ := List.mem_map.mp hx1
      rcases hsc.knd y k hy with ⟨_, q⟩ | ⟨_, q⟩
      · exact .inl (by rw [← e]; exact q)
      · refine .inr ⟨by rw [← e]; exact q, ?_⟩
        obtain ⟨c, h1, _⟩ := cellsFrom_has fd.scope.names (s.heap.objs.size + 1) [] (mem_of_lookup' q)
        rw [← e, h1]; rfl
    · have hn1 : ((((xs.map (·.1)).take np).zip vals).map (·.1)).Nodup := by
        rw [List.map_fst_zip (by simp; (first | lia | omega))]
        exact hsc.names.sublist (List.take_sublist ..)
      have hnone : s.heap.get? s.heap.objs.size = none := get_size _
      obtain ⟨h1, tk, hs1⟩ := x.toInCall.same
      have hkk := x.toInCall.keep
      have hab : ∀ y c, (callEnvC fd s.heap.objs.size a).cells.lookup y = some c → s.heap.objs.size < c := fun y c e => x.above y c (mem_of_lookup e)
      have hR : Rd F [] xs gs (callEnvC fd s.heap.objs.size a) (ps.map .val ++ List.replicate (xs.length - np) .undef) s₁.heap := {
        glob := hgl, bui := hbu, fn := hsc.kind, names := hsc.names, nodbg := hsc.nodbg
        len := by simp [hlen]; (first | lia | omega)
        knd := fun y k hm => by
          rcases hsc.knd y k hm with ⟨rfl, q⟩ | ⟨rfl, q⟩
          · exact q
          · obtain ⟨c, h1, _⟩ := cellsFrom_has fd.scope.names (s.heap.objs.size + 1) [] (mem_of_lookup' q)
            exact ⟨q, c, h1⟩
        gl := fun y hy => hsc.glob y hy
        has := fun i y k p e1 e2 hp => by
          by_cases hlt : i < ps.length
          · rw [List.getElem?_append_left (by simpa using hlt), List.getElem?_map] at e2
            obtain ⟨q, eq, rfl⟩ := Option.map_eq_some_iff.mp e2
            obtain ⟨v, ev, rv⟩ := r.get' eq
            have hmem : (y, v) ∈ ((xs.map (·.1)).take np).zip vals := by
              refine List.mem_of_getElem? (i := i) ?_
              rw [List.getElem?_zip_eq_some]
              exact ⟨by rw [List.getElem?_take_of_lt (by (first | lia | omega))]; simp [e1], ev⟩
            rcases hsc.knd y k (List.mem_of_getElem? e1) with ⟨rfl, q'⟩ | ⟨rfl, q'⟩
            · rw [if_pos rfl]
              exact ⟨_, v, x.toInCall.ns, bindL_at _ _ hn1 hmem q', rv⟩
            · rw [if_neg (by decide)]
              obtain ⟨c, h1, _⟩ := cellsFrom_has fd.scope.names (s.heap.objs.size + 1) [] (mem_of_lookup' q')
              have := x.cell y c h1
              rw [bindC_at _ _ hn1 hmem q'] at this
              exact ⟨c, v, h1, this, rv⟩
          · rw [List.getElem?_append_right (by simpa using Nat.not_lt.mp hlt), List.getElem?_replicate] at e2
            split at e2
            · cases e2; exact absurd rfl hp
            · cases e2
        loc := ⟨_, x.toInCall.ns⟩
        cel := fun y c e => ⟨_, x.cell y c e⟩
        apart := fun y z c e1 e2 => name_of_addr x.apart (mem_of_lookup e1) (mem_of_lookup e2)
        locC := fun y c e => Nat.ne_of_gt (hab y c e)
        locF := ⟨S.none hnone, S.notTab hnone, by simp⟩
        celF := fun y c e => by
          have hn : s.heap.get? c = none := get_ge (Nat.le_of_lt (hab y c e))
          exact ⟨S.none hn, S.notTab hn, by simp⟩ }
      have n₁ : Next B F s F s₁ := by rw [hs1] at hkk ⊢; exact Next.keeps S hkk
      have hA' : AOk n (A.deeper (callEnvC fd s.heap.objs.size a)) := ⟨hA.handled, by have := hA.depth; show A.depth + 1 + 8 * n < _; (first | lia | omega), by have := hA.units; show A.units + 3 + 100 * n < _; (first | lia | omega)⟩
      refine h _ _ F [] _ [] s₁ _ hA' n₁.st hR Mu.none' eg _ _ fun v s₂ F₂ μ₂ n₂ r₂ => ?_
      obtain ⟨hfl, R₂, X₂⟩ := r₂
      have hown : ∀ b, Own (callEnvC fd s.heap.objs.size a) xs b → s.heap.get? b = none := by
        rintro b (rfl | ⟨y, _, e⟩)
        · exact hnone
        · exact get_ge (Nat.le_of_lt (hab y b e))
      obtain ⟨h2, t2, hs2⟩ := n₂.shape
      have N : Next B F s F₂ s₂ := ⟨by rw [hs2, hs1]; exact ⟨h2, t2, rfl⟩, n₂.ext, n₂.st, fun b o hb e => n₂.keep b o hb (fun q => by rw [hown b q] at e; cases e) (by simp) (n₁.keep b o hb e), fun b o e => by
        rcases n₂.new b o e with e | e | e
        · exact .inl e
        · exact .inr (n₁.gone e)
        · simp at e⟩
      cases fl with
      | ret q =>
        cases v <;> try exact hfl.elim
        cases hf; exact hQ _ s₂ F₂ N hfl
      | next =>
        cases v <;> try exact hfl.elim
        cases hf; exact hQ _ s₂ F₂ N .none
      | brk => cases hf
      | cont => cases hf
  · cases hf
end
theorem len2 {α : Type} {l : List α} (h : l.length = 2) : ∃ a b, l = [a, b] := by
  cases l with
  | nil => cases h
  | cons a t =>
    obtain ⟨b, rfl⟩ := List.length_eq_one_iff.mp (Nat.succ.inj h)
    exact ⟨a, b, rfl⟩
theorem len3 {α : Type} {l : List α} (h : l.length = 3) : ∃ a b c, l = [a, b, c] := by
  cases l with
  | nil => cases h
  | cons a t =>
    obtain ⟨b, c, rfl⟩ := len2 (Nat.succ.inj h)
    exact ⟨a, b, c, rfl⟩
theorem len4 {α : Type} {l : List α} (h : l.length = 4) : ∃ a b c d, l = [a, b, c, d] := by
  cases l with
  | nil => cases h
  | cons a t =>
    obtain ⟨b, c, d, rfl⟩ := len3 (Nat.succ.inj h)
    exact ⟨a, b, c, d, rfl⟩
theorem vals1 {P : List Value → Prop} (h : ∀ a, P [a]) (vals : List Value) (hv : vals.length = 1) : P vals := by
  obtain ⟨a, rfl⟩ := List.length_eq_one_iff.mp hv
  exact h a
theorem vals2 {P : List Value → Prop} (h : ∀ a b, P [a, b]) (vals : List Value) (hv : vals.length = 2) : P vals := by
  obtain ⟨a, b, rfl⟩ := len2 hv
  exact h a b
theorem vals3 {P : List Value → Prop} (h : ∀ a b c, P [a, b, c]) (vals : List Value) (hv : vals.length = 3) : P vals := by
  obtain ⟨a, b, c, rfl⟩ := len3 hv
  exact h a b c
end Mine
/-! part 13 -/
namespace Mine
open PySem PySem.Calls PyProof.Rows
section
variable {B : Base} {n : Nat} {xs : Names} {gs : List Str}
/-- two lists as they stand, put together -/
noncomputable def paddL (a b : List V) : Option (List V) := if (a ++ b).length ≤ lim then some (a ++ b) else none
theorem FL_add {l r : Expr} {pos : Pos} {f g : El} (hl : Looks B n xs gs (fun env => eval l env) f) (hr : Looks B n xs gs (fun env => eval r env) g) :
    Fresh B n xs gs (fun env => eval (.BinOp l .Add r pos) env) (p2l f g paddL) := by
  intro env A F μ Γ σ s p hA S R X hf Q E hQ
  obtain ⟨a, ea, hf⟩ := Option.bind_eq_some_iff.mp hf
  obtain ⟨b, eb, hf⟩ := Option.bind_eq_some_iff.mp hf
  unfold paddL at hf
  split at hf
  · rename_i hsz
    cases hf
    refine wpAny_BinOp (hl env A F μ Γ σ s a hA S R X ea _ E fun va s₁ F₁ n₁ ra => hr env A F₁ μ Γ σ s₁ b hA n₁.st (R.next n₁) (X.next n₁) eb _ E fun vb s₂ F₂ n₂ rb => ?_)
    have ra := ra.next n₂
    obtain ⟨a1, vs, k1, rfl, ht1, hg1, r1, hl1⟩ := ra
    obtain ⟨a2, ws, k2, rfl, ht2, hg2, r2, hl2⟩ := rb
    have e : vs.toArray ++ ws.toArray = (vs ++ ws).toArray := by simp
    refine concat_meets ⟨_, hg1, rfl⟩ ⟨_, hg2, rfl⟩ noFill_list_add seq_list_add PySem.F.slot_list_add PySem.F.entry_list_add (PySem.F.args_list_add_2 _ _) (list_addW a1 a2 vs.toArray ws.toArray k1 k2 none none #[] #[] (by
      rw [List.size_toArray, List.size_toArray, r1.length, r2.length]
      have := lim_size hsz
      rw [List.length_append] at this; exact this)) ⟨hg1, hg2, ?_⟩
    rw [e]
    exact fresh_push (run := fun env => eval (.BinOp l .Add r pos) env) (A := A) (tk := s₂.toks) (n₁.trans n₂) (r1.append r2) hsz hQ
  · cases hf
theorem foldl_one (v : Value) : ∀ (k : Nat) (acc : Array Value), (List.replicate k #[v]).foldl (· ++ ·) acc = acc ++ (List.replicate k v).toArray
  | 0, acc => by simp
  | k + 1, acc => by
    rw [List.replicate_succ, List.foldl_cons, foldl_one v k, List.replicate_succ]
    apply Array.ext'
    simp
/-- one thing, many times -/
noncomputable def pmulL (f : El) (g : E) : El := fun Γ σ => (f Γ σ).bind fun a => (g Γ σ).bind fun b => match a, b with
  | [v], .int k => if -(2 ^ 62) ≤ k ∧ k ≤ 2 ^ 20 then some (List.replicate k.toNat v) else none
  | _, _ => none
theorem FL_mul {l r : Expr} {pos : Pos} {f : El} {g : E} (hl : Looks B n xs gs (fun env => eval l env) f) (hr : Evals B n xs gs (fun env => eval r env) g) :
    Fresh B n xs gs (fun env => eval (.BinOp l .Mult r pos) env) (pmulL f g) := by
  intro env A F μ Γ σ s p hA S R X hf Q E hQ
  obtain ⟨a, ea, hf⟩ := Option.bind_eq_some_iff.mp hf
  obtain ⟨b, eb, hf⟩ := Option.bind_eq_some_iff.mp hf
  split at hf
  · rename_i v k e9
    split at hf
    · rename_i hk
      cases hf
      refine wpAny_BinOp (hl env A F μ Γ σ s _ hA S R X ea _ E fun va s₁ F₁ n₁ ra => hr env A F₁ μ Γ σ s₁ _ hA n₁.st (R.next n₁) (X.next n₁) eb _ E fun vb s₂ F₂ n₂ rb => ?_)
      have ra := ra.next n₂
      obtain ⟨a1, vs, k1, rfl, ht1, hg1, r1, hl1⟩ := ra
      obtain ⟨u, rfl⟩ := rep_int rb
      cases r1 with
      | cons rv t =>
        cases t
        rename_i w
        have e : List.foldl (fun x1 x2 => x1 ++ x2) #[] (List.replicate (if ([w].toArray).isEmpty = true then 0 else k.toNat) [w].toArray) = (List.replicate k.toNat w).toArray := by
          show (List.replicate k.toNat #[w]).foldl (· ++ ·) #[] = _
          rw [foldl_one]; simp
        have h1 : ([w].toArray).size * k.toNat ≤ 2 ^ 24 := by
          have : k.toNat ≤ 2 ^ 20 := by (first | lia | omega)
          show 1 * k.toNat ≤ _
          (first | lia | omega)
        refine wpAny_binaryOp_repeat_ref (T := "list") (U := "int") (by decide) ⟨_, hg1, rfl⟩ (fun s' => typeIs_int s' k u) noFill_list_mul PySem.F.fills_int_mul PySem.F.slot_int_rmul repeat_list PySem.F.slot_int_index.lookup
          (call_meets PySem.F.slot_int_rmul (typeIs_int s₂ k u) PySem.F.entry_int_rmul (PySem.F.args_int_rmul_2 _ _) (int___rmul___int_list k u a1 [w].toArray k1)
            ⟨hg1, rfl, ⟨_, hg1, rfl⟩, call_meets PySem.F.slot_list_mul ⟨_, hg1, rfl⟩ PySem.F.entry_list_mul (PySem.F.args_list_mul_2 _ _)
              (AutoListH.list___mul___list_int_3 a1 [w].toArray k1 k u (by simp [Builtin.List.listFitsIndex]; (first | lia | omega)) (by (first | lia | omega)) (by simp [Builtin.List.listTooLong, sizeLine]; (first | lia | omega)))
              ⟨hg1, ?_⟩⟩)
        rw [e]
        exact fresh_push (run := fun env => eval (.BinOp l .Mult r pos) env) (A := A) (tk := s₂.toks) (n₁.trans n₂) (Reps.replicate rv k.toNat) (by rw [List.length_replicate]; unfold lim; (first | lia | omega)) hQ
    · cases hf
  · cases hf
/-! methods -/
noncomputable def lowV : V → List V → Option V
  | .str x, [] => if okS (Txt.lower (strOf x)).cps.toList = true then some (.str (Txt.lower (strOf x)).cps.toList) else none
  | _, _ => none
theorem lower_ok : MethOk B n "str" "str.lower" lowV where
  ty := fun p ps r h => by
    unfold lowV at h
    split at h
    · exact ⟨rfl, fun q e => by cases e⟩
    · cases h
  does := fun A F s a vals p ps r hA S ra rs h Q E hQ => by
    obtain ⟨x, rfl, rfl, h'⟩ : ∃ x, p = .str x ∧ ps = [] ∧ (if okS (Txt.lower (strOf x)).cps.toList = true then some (V.str (Txt.lower (strOf x)).cps.toList) else none) = some r := by
      unfold lowV at h
      split at h
      · exact ⟨_, rfl, rfl, h⟩
      · cases h
    clear h
    obtain ⟨t, rfl, hx⟩ := rep_str ra; cases reps_nil rs
    split at h'
    · rename_i hok
      cases h'
      have e := strOf_surj (Txt.lower (strOf x))
      have r₀ : Rep F (.str (strOf (Txt.lower (strOf x)).cps.toList) s.toks) (.str (Txt.lower (strOf x)).cps.toList) := .str _ _ hok
      rw [← e] at r₀
      refine SC.lower ?_ (hQ _ _ F (.toks S _) r₀)
      have := (okS_iff.mp hok).1
      unfold Builtin.Str.tooLong
      refine decide_eq_false (Nat.not_lt.mpr (lim_size ?_))
      show (Txt.lower (strOf x)).cps.size ≤ lim
      simpa using this
    · cases h'
noncomputable def countSV : V → List V → Option V
  | .str x, [.str y] => some (.int (Builtin.Str.occurrences (strOf x) (strOf y) 0 (strOf x).length ((strOf x).length + 1)).length)
  | _, _ => none
theorem countS_ok : MethOk B n "str" "str.count" countSV where
  ty := fun p ps r h => by
    unfold countSV at h
    split at h
    · exact ⟨rfl, fun q e => by cases e⟩
    · cases h
  does := fun A F s a vals p ps r hA S ra rs h Q E hQ => by
    unfold countSV at h
    split at h
    · cases h
      obtain ⟨t, rfl, _⟩ := rep_str ra
      obtain ⟨v1, rfl, r1⟩ := reps_one rs
      obtain ⟨u, rfl, _⟩ := rep_str r1
      · exact SC.count (hQ _ _ F (.toks S _) (.int _ _))
    · cases h
noncomputable def intsV (k : Int) : List V → Option Nat
  | [] => some 0
  | .int i :: r => (intsV k r).map fun c => if i = k then c + 1 else c
  | _ => none
noncomputable def countLV : V → List V → Option V
  | .list l, [.int k] => (intsOf l).map fun ns => .int ((ns.count k : Nat) : Int)
  | _, _ => none
theorem countL_ok : MethOk B n "list" "list.count" countLV where
  ty := fun p ps r h => by
    unfold countLV at h
    split at h
    · exact ⟨rfl, fun q e => by cases e⟩
    · cases h
  does := fun A F s a vals p ps r hA S ra rs h Q E hQ => by
    unfold countLV at h
    split at h
    · rename_i l k
      obtain ⟨ns, e, rfl⟩ := Option.map_eq_some_iff.mp h
      rw [intsOf_some e] at ra
      obtain ⟨v1, rfl, r1⟩ := reps_one rs
      obtain ⟨u, rfl⟩ := rep_int r1
      obtain ⟨a, vs, m, rfl, e1, rr, hl⟩ := rep_list ra
      · · obtain ⟨l, rfl, rfl⟩ := ints_items rr
          have hg := S.sub _ _ e1
          have key : ∀ l : List (Int × Tok), (l.map fun p => Value.int p.1 p.2).countP (fun v => match v with | .int i _ => i == k | _ => false) = (l.map (·.1)).count k := by
            intro l
            induction l with
            | nil => rfl
            | cons x l ih => simp only [List.map_cons, List.countP_cons, List.count_cons, ih]
          refine call_meets PySem.F.slot_list_count ⟨_, hg, rfl⟩ PySem.F.entry_list_count (PySem.F.args_list_count_2 _ _) (MeetsSeq.list_count a _ m (.int k u) (fun v => match v with | .int i _ => i == k | _ => false) fun y hy => ?_) ⟨hg, ?_⟩
          · simp only [List.mem_toArray, List.mem_map] at hy
            obtain ⟨p, _, rfl⟩ := hy
            exact MeetsSeq.EqGives.int p.1 k p.2 u
          · rw [List.toList_toArray, key]
            exact hQ _ _ F (.toks S _) (.int _ _)
    · cases h
noncomputable def strsOf : List V → Option (List (List Nat))
  | [] => some []
  | .str x :: r => (strsOf r).map (x :: ·)
  | _ => none
theorem strsOf_cons {p : V} {r : List V} {ns : List (List Nat)} (h : strsOf (p :: r) = some ns) : ∃ x m, p = .str x ∧ strsOf r = some m ∧ ns = x :: m := by
  cases p with
  | str x =>
    obtain ⟨m, e, rfl⟩ := Option.map_eq_some_iff.mp h
    exact ⟨x, m, rfl, e, rfl⟩
  | _ => cases (show (Option.none : Option (List (List Nat))) = some ns from h)
theorem strs_items {F : Fz} {vs : List Value} : ∀ {ps : List V} {ns : List (List Nat)}, strsOf ps = some ns → Reps F vs ps → ∃ l : List (Str × Tok), vs = PySem.strValues l ∧ l.map (·.1) = ns.map strOf ∧ ∀ x ∈ ns, okS x = true := by
  induction vs with
  | nil =>
    intro ps ns h r
    cases r
    cases h
    exact ⟨[], rfl, rfl, fun x hx => by cases hx⟩
  | cons v vs ih =>
    intro ps ns h r
    cases r with
    | cons h1 h2 =>
      obtain ⟨x, m, rfl, e, rfl⟩ := strsOf_cons h
      obtain ⟨l, rfl, h3, h4⟩ := ih e h2
      cases h1 with
      | str _ t hx =>
        refine ⟨(strOf x, t) :: l, rfl, by rw [List.map_cons, List.map_cons, h3], fun y hy => ?_⟩
        rcases List.mem_cons.mp hy with rfl | hy
        · exact hx
        · exact h4 y hy
theorem post_strOf {F : Fz} {s : Shared} {y : List Nat} {Q : Value → Shared → Prop} (hy : okS y = true) (S : St B F s.heap) (hQ : ∀ t k, Rep F (.str (strOf y) t) (.str y) → Q (.str (strOf y) t) { s with toks := k }) : (Made.str (strOf y)).post Q s :=
  ⟨lim_size (by have := (okS_iff.mp hy).1; simpa [strOf, Str.length] using this), hQ _ _ (.str _ _ hy)⟩
/-- the texts set one behind the other, «''.join» -/
noncomputable def joinV : V → List V → Option V
  | .str [], [.list l] => (strsOf l).bind fun ns => if okS ns.flatten then some (.str ns.flatten) else none
  | _, _ => none
theorem glued_nil : ∀ ns : List (List Nat), Builtin.Str.glued (strOf []) (ns.map strOf) = strOf ns.flatten
  | [] => rfl
  | a :: r => by
    have key : ∀ (r : List (List Nat)) (acc : Array Nat), (r.map strOf).foldl (fun acc p => acc ++ (strOf []).cps ++ p.cps) acc = acc ++ r.flatten.toArray := by
      intro r
      induction r with
      | nil => intro acc; simp
      | cons x r ih => intro acc; rw [List.map_cons, List.foldl_cons, ih]; apply Array.ext'; simp [strOf]
    unfold Builtin.Str.glued
    show (⟨((r.map strOf)).foldl (fun acc p => acc ++ (strOf []).cps ++ p.cps) (strOf a).cps⟩ : Str) = _
    rw [key]
    unfold strOf
    congr 1
    apply Array.ext'
    simp
theorem fold_len : ∀ (ns : List (List Nat)) (k : Nat), (ns.map strOf).foldl (fun a p => a + p.length + (strOf []).length) k = k + ns.flatten.length
  | [], k => by simp
  | a :: r, k => by
    rw [List.map_cons, List.foldl_cons, fold_len r]
    simp [strOf, Str.length]; (first | lia | omega)
theorem join_ok : MethOk B n "str" "str.join" joinV where
  ty := fun p ps r h => by
    unfold joinV at h
    split at h
    · exact ⟨rfl, fun q e => by cases e⟩
    · cases h
  does := fun A F s a vals p ps r hA S ra rs h Q E hQ => by
    unfold joinV at h
    split at h
    · obtain ⟨ns, e, h⟩ := Option.bind_eq_some_iff.mp h
      split at h
      · rename_i hok
        cases h
        obtain ⟨t, rfl, _⟩ := rep_str ra
        obtain ⟨v1, rfl, r1⟩ := reps_one rs
        obtain ⟨a, vs, m, rfl, e1, rr, hl⟩ := rep_list r1
        · · obtain ⟨l, rfl, h3, h4⟩ := strs_items e rr
            have hg := S.sub _ _ e1
            refine call_meets PySem.F.slot_str_join (typeIs_str _ _ _) PySem.F.entry_str_join (PySem.F.args_str_join_2 _ _) (meets_str_join_list (strOf []) t a l ?_) ⟨isList_of hg, ?_⟩
            · rw [h3, List.foldl_toArray]
              have : ((ns.map strOf).foldl (fun a p => a + p.length + (strOf []).length) 0) = ns.flatten.length := by rw [fold_len]; simp
              rw [this]
              unfold Builtin.Str.tooLong
              exact decide_eq_false (Nat.not_lt.mpr (lim_size (okS_iff.mp hok).1))
            · have hj : (l = [] ∨ ∃ a b r, l = a :: b :: r) → joinMade (strOf []) l = .str (strOf ns.flatten) := by
                intro hh
                have : joinMade (strOf []) l = .str (Builtin.Str.glued (strOf []) (l.map (·.1))) := by
                  rcases hh with rfl | ⟨a, b, r, rfl⟩ <;> rfl
                rw [this, h3, glued_nil]
              match l, hj, h3 with
              | [], hj, _ => rw [hj (.inl rfl)]; exact post_strOf hok S fun t k r => hQ _ _ F (.toks S _) r
              | [p], _, h3 =>
                cases ns with
                | nil => simp at h3
                | cons x r => cases r with
                  | cons y r => simp at h3
                  | nil =>
                    have : p.1 = strOf x := by simpa using h3
                    show Q (.str p.1 p.2) s
                    rw [this]
                    have e9 : [x].flatten = x := by simp
                    rw [e9] at hQ
                    exact hQ _ _ F (.refl S) (.str _ _ (h4 x (.head _)))
              | a :: b :: r, hj, _ => rw [hj (.inr ⟨a, b, r, rfl⟩)]; exact post_strOf hok S fun t k r => hQ _ _ F (.toks S _) r
      · cases h
    · cases h
/-- the texts between -/
noncomputable def splitV : V → List V → Option V
  | .str x, [.str y] =>
    if (decide ((strOf x).length < (strOf y).length) || decide (Builtin.Str.strKind (strOf x) < Builtin.Str.strKind (strOf y))) = false ∧ ((strOf y).length == 0) = false ∧
        (Builtin.Str.occurrences (strOf x) (strOf y) 0 (strOf x).length ((strOf x).length + 1)).isEmpty = false ∧
        (Builtin.Str.partsBetween (strOf x) (Builtin.Str.occurrences (strOf x) (strOf y) 0 (strOf x).length ((strOf x).length + 1)) (strOf y).length).length ≤ lim ∧
        ((Builtin.Str.partsBetween (strOf x) (Builtin.Str.occurrences (strOf x) (strOf y) 0 (strOf x).length ((strOf x).length + 1)) (strOf y).length).all fun p => okS p.cps.toList) = true
    then some (.list ((Builtin.Str.partsBetween (strOf x) (Builtin.Str.occurrences (strOf x) (strOf y) 0 (strOf x).length ((strOf x).length + 1)) (strOf y).length).map fun p => .str p.cps.toList)) else none
  | _, _ => none
theorem reps_strsFrom {F : Fz} : ∀ (ps : List Str) (k : Nat), (ps.all fun p => okS p.cps.toList) = true → Reps F (strsFrom k ps) (ps.map fun p => V.str p.cps.toList)
  | [], k, _ => .nil
  | p :: r, k, h => by
    rw [List.all_cons, Bool.and_eq_true] at h
    refine .cons ?_ (reps_strsFrom r _ h.2)
    have := Rep.str (F := F) p.cps.toList k h.1
    rw [← strOf_surj p] at this
    exact this
theorem strsFrom_len : ∀ (ps : List Str) (k : Nat), (strsFrom k ps).length = ps.length
  | [], _ => rfl
  | _ :: r, k => by simp [strsFrom, strsFrom_len r]
theorem split_ok : MethOk B n "str" "str.split" splitV where
  ty := fun p ps r h => by
    unfold splitV at h
    split at h
    · exact ⟨rfl, fun q e => by cases e⟩
    · cases h
  does := fun A F s a vals p ps r hA S ra rs h Q E hQ => by
    unfold splitV at h
    split at h
    · split at h
      · rename_i x y hc
        obtain ⟨h1, h2, h3, h4, h5⟩ := hc
        cases h
        obtain ⟨t, rfl, hx⟩ := rep_str ra
        obtain ⟨v1, rfl, r1⟩ := reps_one rs
        obtain ⟨u, rfl, hy⟩ := rep_str r1
        · refine call_meets PySem.F.slot_str_split (typeIs_str _ _ _) PySem.F.entry_str_split (PySem.F.args_str_split_2 _ _) (meets_str_split_sep (strOf x) (strOf y) t u h1 h2 h3 (by have := (okS_iff.mp hx).1; exact lim_size (by simpa [strOf, Str.length] using this)) (lim_size h4)) ?_
          refine hQ _ _ (F.put s.heap.objs.size _) (Next.made S (fun b o e => Heap.get?_push_of_some _ e) (get_size _) (Heap.get?_push_size _ rfl)) ?_
          exact .list Fz.put_self (reps_strsFrom _ _ h5) (by rw [List.length_map]; exact h4)
      · cases h
    · cases h
noncomputable def bitsV : V → List V → Option V
  | .int a, [] => some (.int (Builtin.Int.intBits a))
  | _, _ => none
theorem bits_ok : MethOk B n "int" "int.bit_length" bitsV where
  ty := fun p ps r h => by
    unfold bitsV at h
    split at h
    · exact ⟨rfl, fun q e => by cases e⟩
    · cases h
  does := fun A F s a vals p ps r hA S ra rs h Q E hQ => by
    unfold bitsV at h
    split at h
    · cases h
      obtain ⟨t, rfl⟩ := rep_int ra
      cases reps_nil rs
      exact call_int_bit_length (hQ _ _ F (.toks S _) (.int _ _))
    · cases h
end
end Mine
/-! part 14 -/
namespace Mine
open PySem PySem.Calls PyProof.Rows
/-- what stands before the law is called -/
structure BaseOk (B : Base) : Prop where
  frag : PySem.W.Frag.In (hd.heap_39 B.w.params) B.h₁
  lim : B.h₁.NoLimit
  g : ∃ mg, B.h₁.Ns mainGlobals mg ∧ ∃ bm ob, mg "__builtins__" = some (.ref bm) ∧ bm ≠ builtinsNs ∧ B.h₁.get? bm = some ob ∧ ob.cls = .type "module" ∧ ob.dict = some builtinsNs ∧ ob.data = .plain
  b : ∃ mb, B.h₁.Ns builtinsNs mb ∧ ∀ x : Str, x ≠ "__name__" → mb x = bootBuiltins x
section
variable {B : Base} {n : Nat} {xs : Names} {gs : List Str}
theorem St.g {F : Fz} {h : Heap} (S : St B F h) {b : Addr} {o : Obj} (e : B.h₁.get? b = some o) : h.get? b = some o := S.sub _ _ (S.base _ _ e)
theorem glob_of (ok : BaseOk B) {x : Str} {v : Value} (e : PySem.W.nsIn (hd.heap_39 B.w.params) mainGlobals x = some (some v)) (hx : (x == ("__debug__" : Str)) = false := by decide +kernel) : Glob B x v := by
  intro A F env s pos Q E S hg hb hk hn h
  obtain ⟨mg, G, _⟩ := ok.g
  refine Name_function_global hk hn (loadGlobal_global (mg := mg) ?_ (PySem.W.mg_of ok.frag G e) h) hx
  rw [hg]
  exact G.at' fun o e => S.g e
theorem glob_boot (ok : BaseOk B) {x : Str} {v : Value} (e : PySem.W.nsIn (hd.heap_39 B.w.params) mainGlobals x = some none) (hv : bootBuiltins x = some v) (hx : (x == ("__debug__" : Str)) = false := by decide +kernel) (hne : x ≠ "__name__" := by decide +kernel) : Glob B x v := by
  intro A F env s pos Q E S hg hb hk hn h
  obtain ⟨mg, G, _⟩ := ok.g
  obtain ⟨mb, Gb, hmb⟩ := ok.b
  refine Name_function_global hk hn (loadGlobal_builtin (mg := mg) (mb := mb) ?_ (PySem.W.mg_none_of ok.frag G e) ?_ (by rw [hmb x hne]; exact hv) h) hx
  · rw [hg]; exact G.at' fun o e => S.g e
  · rw [hb]; exact Gb.at' fun o e => S.g e
/-! names that stand for plain things -/
theorem E_gint {x : Str} {pos : Pos} {i : Int} {t : Tok} (hx : x ∈ gs) (hg : Glob B x (.int i t)) : Evals B n xs gs (fun env => eval (.Name x pos) env) (pk (.int i)) := by
  intro env A F μ Γ σ s p hA S R X hf Q E hQ
  cases hf
  exact hg A F env s pos Q E S R.glob R.bui R.fn (R.gl x hx) (hQ _ s F (.refl S) (.int _ _))
theorem E_gstr {x y : Str} {l : List Nat} {pos : Pos} {t : Tok} (hx : x ∈ gs) (hg : Glob B x (.str y t)) (hy : y = strOf l) (hl : okS l = true := by decide) : Evals B n xs gs (fun env => eval (.Name x pos) env) (pk (.str l)) := by
  intro env A F μ Γ σ s p hA S R X hf Q E hQ
  cases hf
  exact hg A F env s pos Q E S R.glob R.bui R.fn (R.gl x hx) (hQ _ s F (.refl S) (by rw [hy]; exact .str _ _ hl))
noncomputable def isBoolV : V → Option V
  | .bool _ => some (.bool true)
  | _ => none
theorem E_isbool {p p' pos : Pos} {e : Expr} {f : E} (hx : Str.ofString "isinstance" ∈ gs) (hg : Glob B (Str.ofString "isinstance") (.builtin "isinstance")) (hx' : Str.ofString "bool" ∈ gs) (hg' : Glob B (Str.ofString "bool") (.type "bool"))
    (h : Evals B n xs gs (fun env => eval e env) f)
    (he : ∀ env, starEach [e, .Name (Str.ofString "bool") p'] env = (false, eval e env) :: starEach [.Name (Str.ofString "bool") p'] env := by intro _; rfl) (he' : ∀ env, starEach [.Name (Str.ofString "bool") p'] env = [(false, eval (.Name (Str.ofString "bool") p') env)] := by intro _; rfl) :
    Evals B n xs gs (fun env => eval (.Call (.Name (Str.ofString "isinstance") p) [e, .Name (Str.ofString "bool") p'] [] pos) env) (p1 isBoolV f) := by
  intro env A F μ Γ σ s r hA S R X hr Q E hQ
  obtain ⟨v, ev, hr⟩ := Option.bind_eq_some_iff.mp hr
  have hr2 : ∃ b, v = .bool b ∧ r = .bool true := by
    cases v <;> first | (cases hr; exact ⟨_, rfl, rfl⟩) | cases hr
  clear hr
  obtain ⟨b, rfl, rfl⟩ := hr2
  show wpAny (model prg B.w) A (do callWith pos (← eval (.Name _ p) env) [] (backTo pos (starEach [e, .Name (Str.ofString "bool") p'] env)) (backToKw pos (keywordEach [] env))) Q E s
  refine wpAny_bind (hg A F env s p _ E S R.glob R.bui R.fn (R.gl _ hx) ?_)
  refine callWith_any (by rw [he, he']; rfl) ?_
  refine wpAny_items_cons (h env A F μ Γ σ s _ hA S R X ev _ E fun v s₁ F₁ n₁ r₁ => ?_) (he env)
  refine wpAny_items_cons (hg' A F₁ env s₁ p' _ E n₁.st R.glob R.bui R.fn (R.gl _ hx') (wpAny_items_nil ?_)) (he' env)
  refine Keep.builtin A F₁ s₁ _ E n₁.st fun k => ⟨rfl, ?_⟩
  cases rep_bool r₁
  exact PySem.IsiPair.bool_bool (hQ _ s₁ F₁ n₁ (.bool true))
noncomputable def rng3 (a b c : Int) : List V := (List.range (Builtin.Range.rangeSize a b c).toNat).map fun (i : Nat) => V.int (a + (i : Int) * c)
noncomputable def okR3 (a b c : Int) : Bool := decide (0 < c) && Builtin.Range.small a b c && decide (Builtin.Range.rangeSize a b c ≤ 1048576) && decide (0 ≤ Builtin.Range.rangeSize a b c) && decide ((b - a).natAbs < 2 ^ 60) && decide (c < 1048576)
theorem FL_range3 {p p' pos pos' : Pos} {e1 e2 e3 : Expr} {f1 f2 f3 : E} (hl : Str.ofString "list" ∈ gs) (hgl : Glob B (Str.ofString "list") (.type "list")) (hx : Str.ofString "range" ∈ gs) (hg : Glob B (Str.ofString "range") (.type "range"))
    (h1 : Evals B n xs gs (fun env => eval e1 env) f1) (h2 : Evals B n xs gs (fun env => eval e2 env) f2) (h3 : Evals B n xs gs (fun env => eval e3 env) f3)
    (he : ∀ env, starEach [e1, e2, e3] env = (false, eval e1 env) :: starEach [e2, e3] env := by intro _; rfl) (he2 : ∀ env, starEach [e2, e3] env = (false, eval e2 env) :: starEach [e3] env := by intro _; rfl)
    (he3 : ∀ env, starEach [e3] env = [(false, eval e3 env)] := by intro _; rfl)
    (hc : ∀ env, starEach [.Call (.Name (Str.ofString "range") p') [e1, e2, e3] [] pos'] env = [(false, eval (.Call (.Name (Str.ofString "range") p') [e1, e2, e3] [] pos') env)] := by intro _; rfl) :
    Fresh B n xs gs (fun env => eval (.Call (.Name (Str.ofString "list") p) [.Call (.Name (Str.ofString "range") p') [e1, e2, e3] [] pos'] [] pos) env)
      (fun Γ σ => (f1 Γ σ).bind fun a => (f2 Γ σ).bind fun b => (f3 Γ σ).bind fun c => match a, b, c with | .int a, .int b, .int c => if okR3 a b c then some (rng3 a b c) else none | _, _, _ => none) := by
  intro env A F μ Γ σ s r hA S R X hr Q E hQ
  obtain ⟨v1, ev1, hr⟩ := Option.bind_eq_some_iff.mp hr
  obtain ⟨v2, ev2, hr⟩ := Option.bind_eq_some_iff.mp hr
  obtain ⟨v3, ev3, hr⟩ := Option.bind_eq_some_iff.mp hr
  have hr2 : ∃ a b c, v1 = .int a ∧ v2 = .int b ∧ v3 = .int c ∧ (if okR3 a b c then some (rng3 a b c) else none) = some r := by
    split at hr
    · exact ⟨_, _, _, rfl, rfl, rfl, hr⟩
    · cases hr
  clear hr
  obtain ⟨a, b, c, rfl, rfl, rfl, hr⟩ := hr2
  split at hr
  · rename_i hok
    cases hr
    unfold okR3 at hok
    simp only [Bool.and_eq_true, decide_eq_true_eq] at hok
    obtain ⟨⟨⟨⟨⟨k1, k2⟩, k3⟩, k4⟩, k5⟩, k6⟩ := hok
    show wpAny (model prg B.w) A (do callWith pos (← eval (.Name _ p) env) [] (backTo pos (starEach [.Call (.Name (Str.ofString "range") p') [e1, e2, e3] [] pos'] env)) (backToKw pos (keywordEach [] env))) Q E s
    refine wpAny_bind (hgl A F env s p _ E S R.glob R.bui R.fn (R.gl _ hl) ?_)
    refine callWith_any (by rw [hc]; rfl) ?_
    refine wpAny_items_cons (e := .Call (.Name (Str.ofString "range") p') [e1, e2, e3] [] pos') ?_ (hc env)
    show wpAny (model prg B.w) A (do callWith pos' (← eval (.Name _ p') env) [] (backTo pos' (starEach [e1, e2, e3] env)) (backToKw pos' (keywordEach [] env))) _ E s
    refine wpAny_bind (hg A F env s p' _ E S R.glob R.bui R.fn (R.gl _ hx) ?_)
    refine callWith_any (by rw [he, he2, he3]; rfl) ?_
    refine wpAny_items_cons (h1 env A F μ Γ σ s _ hA S R X ev1 _ E fun v s₁ F₁ n₁ r₁ => ?_) (he env)
    refine wpAny_items_cons (h2 env A F₁ μ Γ σ s₁ _ hA n₁.st (R.next n₁) (X.next n₁) ev2 _ E fun v' s₂ F₂ n₂ r₂ => ?_) (he2 env)
    refine wpAny_items_cons (h3 env A F₂ μ Γ σ s₂ _ hA n₂.st ((R.next n₁).next n₂) ((X.next n₁).next n₂) ev3 _ E fun v'' s₃ F₃ n₃ r₃ => wpAny_items_nil ?_) (he3 env)
    have N := (n₁.trans n₂).trans n₃
    refine Keep.type A F₃ s₃ _ E n₃.st fun k => ⟨rfl, ?_⟩
    obtain ⟨t, rfl⟩ := rep_int r₁
    obtain ⟨u, rfl⟩ := rep_int r₂
    obtain ⟨w, rfl⟩ := rep_int r₃
    refine call_range_3 (by (first | lia | omega)) ?_ (.inl (PyProof.noPylong_small (by (first | lia | omega))))
    have N₄ : Next B F₃ s₃ F₃ { s₃ with heap := s₃.heap.push { cls := .type "range", data := .fields #[.int a t, .int b u, .int c w] }, toks := s₃.toks } := Next.keeps N.st fun b' o e => Heap.get?_push_of_some _ e
    refine wpAny_items_nil ?_
    refine Keep.type A F₃ _ _ E N₄.st fun k => ⟨rfl, ?_⟩
    have hn : Builtin.Range.rangeSize a b c = ((Builtin.Range.rangeSize a b c).toNat : Nat) := by (first | lia | omega)
    refine call_list_range (n := (Builtin.Range.rangeSize a b c).toNat) hA.handled (IsRange.new ..) k2 hn (by (first | lia | omega)) fun h' tk acc' c' kk hg' hi => ?_
    have N₅ := (N.trans N₄).trans (Next.keeps (t := tk) N₄.st kk)
    refine hQ _ _ F₃ N₅ ⟨_, acc'.toList, c', rfl, ?_, ?_, by simpa using hg', ?_, by rw [rng3, List.length_map, List.length_range]; unfold lim; (first | lia | omega)⟩
    · exact (N.trans N₄).gone (get_size _)
    · exact N₄.st.none (get_size _)
    · obtain ⟨hs, hP⟩ := hi
      have key : ∀ (l : List Value) (m : Nat), (∀ j v, l[j]? = some v → ∃ t, v = Value.int (a + ((m + j : Nat) : Int) * c) t) → Reps F₃ l ((List.range' m l.length).map fun (i : Nat) => V.int (a + (i : Int) * c)) := by
        intro l
        induction l with
        | nil => intro m _; exact .nil
        | cons v l ih =>
          intro m hh
          obtain ⟨t, rfl⟩ := hh 0 v rfl
          rw [List.length_cons, List.range'_succ, List.map_cons]
          refine .cons (.int _ _) (ih (m + 1) fun j v hj => ?_)
          obtain ⟨t, rfl⟩ := hh (j + 1) v (by simpa using hj)
          exact ⟨t, by congr 3; (first | lia | omega)⟩
      have := key acc'.toList 0 fun j v hj => by
        obtain ⟨t, ht⟩ := hP j v (by simpa using hj)
        exact ⟨t, by rw [ht]; congr 3; (first | lia | omega)⟩
      rw [Array.length_toList, hs, ← List.range_eq_range'] at this
      exact this
  · cases hr
/-- a comprehension into a cell -/
theorem X_assignC {i : Nat} {x z : Str} {pos' pos cpos px : Pos} {elt iter : Expr} {ifs : List Expr} {rest : List Comprehension} {scope : Scope} {f : E} (hx : xs[i]? = some (x, .own)) (h : Evals B n xs gs (fun env => eval (.ListComp elt (⟨.Name z px, iter, ifs, 0⟩ :: rest) scope cpos) env) f) :
    Exec1 B n xs gs (.Assign [.Name x pos'] (.ListComp elt (⟨.Name z px, iter, ifs, 0⟩ :: rest) scope cpos) pos) (xset i f) := by
  intro env A F μ Γ σ s r hA S R X hf Q E hQ
  obtain ⟨v, e, rfl⟩ := Option.map_eq_some_iff.mp hf
  refine wpAny_Assign_Name (h env A F μ Γ σ s v hA S R X e _ E fun w s₁ F₁ n₁ r₁ => ?_) ?_
  · exact store_ok n₁.st (R.next n₁) (X.next n₁) hx (by decide) (p := .val v) r₁ fun s₂ n₂ R₂ X₂ => hQ _ s₂ F₁ μ (n₁.toS.trans n₂) ⟨trivial, R₂, X₂⟩
  · have K : env.kindOf x = some .cell := (R.knd x .own (List.mem_of_getElem? hx)).1
    show pure (env.blockKind == .function && env.kindOf x == some .local && pos'.line == cpos.line && !(scope.names.any fun (n, k) => n == x && (k == .local || k == .cell))) = (pure false : Sem Bool)
    rw [K, show (some NameKind.cell == some NameKind.local) = false from rfl, Bool.and_false, Bool.false_and, Bool.false_and]
theorem turn_if {elt iter c : Expr} {x : Str} {px : Pos} {scope : Scope} {pos : Pos} : ∀ it acc env, compTurn (.ListComp elt [⟨.Name x px, iter, [c], 0⟩] scope pos) 0 it acc env = (standAt iter.pos >>= fun _ => pyNext it >>= fun r => match r with
      | none => pure (.done .next)
      | some v => letOwnedTupleGo (.Name x px) it v >>= fun _ => assign (.Name x px) env v >>= fun _ => emitIf c (emitElt elt) env acc >>= fun _ => again (.compLoop (.ListComp elt [⟨.Name x px, iter, [c], 0⟩] scope pos) 0 it acc env)) := by
  intro it acc env
  unfold compTurn emitIf emitElt
  simp only [List.getElem?_cons_zero]
  show (standAt iter.pos >>= fun _ => pyNext it >>= _) = _
  congr 1; funext _
  congr 1; funext r
  cases r with
  | none => rfl
  | some v =>
    show (letOwnedTupleGo (.Name x px) it v >>= fun _ => assign (.Name x px) env v >>= fun _ => _) = (letOwnedTupleGo (.Name x px) it v >>= fun _ => assign (.Name x px) env v >>= fun _ => _)
    congr 1; funext _
    congr 1; funext _
    simp only [List.forIn_cons, List.forIn_nil, if_true, bind_assoc, pure_bind]
    congr 1; funext b
    cases b
    · simp
    · simp
theorem turn_2 {elt iter iter' : Expr} {x y : Str} {px py : Pos} {scope : Scope} {pos : Pos} : ∀ it acc env, compTurn (.ListComp elt [⟨.Name x px, iter, [], 0⟩, ⟨.Name y py, iter', [], 0⟩] scope pos) 0 it acc env = (standAt iter.pos >>= fun _ => pyNext it >>= fun r => match r with
      | none => pure (.done .next)
      | some v => letOwnedTupleGo (.Name x px) it v >>= fun _ => assign (.Name x px) env v >>= fun _ => emitFor (.ListComp elt [⟨.Name x px, iter, [], 0⟩, ⟨.Name y py, iter', [], 0⟩] scope pos) ⟨.Name y py, iter', [], 0⟩ 1 env acc >>= fun _ => again (.compLoop (.ListComp elt [⟨.Name x px, iter, [], 0⟩, ⟨.Name y py, iter', [], 0⟩] scope pos) 0 it acc env)) := by
  intro it acc env
  unfold compTurn emitFor
  simp only [List.getElem?_cons_zero]
  show (standAt iter.pos >>= fun _ => pyNext it >>= _) = _
  congr 1; funext _
  congr 1; funext r
  cases r with
  | none => rfl
  | some v =>
    show (letOwnedTupleGo (.Name x px) it v >>= fun _ => assign (.Name x px) env v >>= fun _ => _) = (letOwnedTupleGo (.Name x px) it v >>= fun _ => assign (.Name x px) env v >>= fun _ => _)
    congr 1; funext _
    congr 1; funext _
    simp [bind_assoc, pure_bind]
/-! the four shapes of comprehensions -/
variable {ys : Names} {hs : List Str}
theorem FL_c1 {i m : Nat} {js : List Nat} {x : Str} {k : Kd} {elt iter : Expr} {scope : Scope} {pos px : Pos} {f : El} {g : E} (C : CScope scope xs ys hs m js)
    (hx : ys[i]? = some (x, k)) (hk : k ≠ .cap) (hi : Iters B n xs gs iter f) (hE : Evals B n ys hs (fun env => eval elt env) g) (hs' : ∀ env x, foldedSetIterable iter env x = pure x := by intro _ _; rfl) :
    Fresh B n xs gs (fun env => eval (.ListComp elt [⟨.Name x px, iter, [], 0⟩] scope pos) env) (pcomp i m js f (pone g)) :=
  FL_comp (ip := iter.pos) C hx hk hi (EM_elt hE) (by intro _ _ _; rfl) hs'
theorem FL_cif {i m : Nat} {js : List Nat} {x : Str} {k : Kd} {elt iter c : Expr} {scope : Scope} {pos px : Pos} {f : El} {t : Et} {g : E} (C : CScope scope xs ys hs m js)
    (hx : ys[i]? = some (x, k)) (hk : k ≠ .cap) (hi : Iters B n xs gs iter f) (ht : Tests B n ys hs (fun env => isTrue c env (eval c env)) t) (hE : Evals B n ys hs (fun env => eval elt env) g) (hs' : ∀ env x, foldedSetIterable iter env x = pure x := by intro _ _; rfl) :
    Fresh B n xs gs (fun env => eval (.ListComp elt [⟨.Name x px, iter, [c], 0⟩] scope pos) env) (pcomp i m js f (cif t (pone g))) :=
  FL_comp (ip := iter.pos) C hx hk hi (EM_if ht (EM_elt hE)) turn_if hs'
theorem FL_c2 {i j m : Nat} {js : List Nat} {x y : Str} {k k' : Kd} {elt iter iter' : Expr} {scope : Scope} {pos px py : Pos} {f f' : El} {g : E} (C : CScope scope xs ys hs m js)
    (hx : ys[i]? = some (x, k)) (hk : k ≠ .cap) (hy : ys[j]? = some (y, k')) (hk' : k' ≠ .cap) (hi : Iters B n xs gs iter f) (hi' : Iters B n ys hs iter' f') (hE : Evals B n ys hs (fun env => eval elt env) g)
    (hs' : ∀ env x, foldedSetIterable iter env x = pure x := by intro _ _; rfl) (hs'' : ∀ env x, foldedSetIterable iter' env x = pure x := by intro _ _; rfl) :
    Fresh B n xs gs (fun env => eval (.ListComp elt [⟨.Name x px, iter, [], 0⟩, ⟨.Name y py, iter', [], 0⟩] scope pos) env) (pcomp i m js f (cfor j f' (pone g))) :=
  FL_comp (ip := iter.pos) C hx hk hi (EM_for (elt := elt) (gens := [⟨.Name x px, iter, [], 0⟩, ⟨.Name y py, iter', [], 0⟩]) (scope := scope) (pos := pos) (px := py) (d := 1) (ifs := []) (ip := iter'.pos) hy hk' hi' (EM_elt hE) (by intro _ _ _; rfl) rfl hs'') turn_2 hs'
theorem X_c1 {i m iy : Nat} {js : List Nat} {x y : Str} {k : Kd} {elt iter : Expr} {scope : Scope} {pos px py spos : Pos} {f : El} {g : E} (C : CScope scope xs ys hs m js)
    (hy : xs[iy]? = some (y, .loc)) (hx : ys[i]? = some (x, k)) (hk : k ≠ .cap) (hi : Iters B n xs gs iter f) (hE : Evals B n ys hs (fun env => eval elt env) g)
    (hline : (py.line == pos.line) = true) (hno : (scope.names.any fun z => z.1 == y && (z.2 == .local || z.2 == .cell)) = false) (hs' : ∀ env x, foldedSetIterable iter env x = pure x := by intro _ _; rfl) :
    Exec1 B n xs gs (.Assign [.Name y py] (.ListComp elt [⟨.Name x px, iter, [], 0⟩] scope pos) spos) (xset iy (fun Γ σ => (pcomp i m js f (pone g) Γ σ).map V.list)) :=
  X_compSwap (ip := iter.pos) C hy hx hk hi (EM_elt hE) hline hno (by intro _ _ _; rfl) hs'
theorem X_c2 {i j m iy : Nat} {js : List Nat} {x y z : Str} {k k' : Kd} {elt iter iter' : Expr} {scope : Scope} {pos px py pz spos : Pos} {f f' : El} {g : E} (C : CScope scope xs ys hs m js)
    (hy : xs[iy]? = some (y, .loc)) (hx : ys[i]? = some (x, k)) (hk : k ≠ .cap) (hz : ys[j]? = some (z, k')) (hk' : k' ≠ .cap) (hi : Iters B n xs gs iter f) (hi' : Iters B n ys hs iter' f') (hE : Evals B n ys hs (fun env => eval elt env) g)
    (hline : (py.line == pos.line) = true) (hno : (scope.names.any fun z => z.1 == y && (z.2 == .local || z.2 == .cell)) = false) (hs' : ∀ env x, foldedSetIterable iter env x = pure x := by intro _ _; rfl)
    (hs'' : ∀ env x, foldedSetIterable iter' env x = pure x := by intro _ _; rfl) :
    Exec1 B n xs gs (.Assign [.Name y py] (.ListComp elt [⟨.Name x px, iter, [], 0⟩, ⟨.Name z pz, iter', [], 0⟩] scope pos) spos) (xset iy (fun Γ σ => (pcomp i m js f (cfor j f' (pone g)) Γ σ).map V.list)) :=
  X_compSwap (ip := iter.pos) C hy hx hk hi (EM_for (elt := elt) (gens := [⟨.Name x px, iter, [], 0⟩, ⟨.Name z pz, iter', [], 0⟩]) (scope := scope) (pos := pos) (px := pz) (d := 1) (ifs := []) (ip := iter'.pos) hz hk' hi' (EM_elt hE) (by intro _ _ _; rfl) rfl hs'') hline hno turn_2 hs'
end
end Mine
/-! part 15 -/
namespace Mine
open PySem PySem.Calls PyProof.Rows
theorem g_abs {B : Base} (ok : BaseOk B) : Glob B (Str.ofString "abs") (.builtin "abs") := glob_boot ok (by rfl) (by decide +kernel)
theorem g_divmod {B : Base} (ok : BaseOk B) : Glob B (Str.ofString "divmod") (.builtin "divmod") := glob_boot ok (by rfl) (by decide +kernel)
theorem g_isinstance {B : Base} (ok : BaseOk B) : Glob B (Str.ofString "isinstance") (.builtin "isinstance") := glob_boot ok (by rfl) (by decide +kernel)
theorem g_len {B : Base} (ok : BaseOk B) : Glob B (Str.ofString "len") (.builtin "len") := glob_boot ok (by rfl) (by decide +kernel)
theorem g_max {B : Base} (ok : BaseOk B) : Glob B (Str.ofString "max") (.builtin "max") := glob_boot ok (by rfl) (by decide +kernel)
theorem g_min {B : Base} (ok : BaseOk B) : Glob B (Str.ofString "min") (.builtin "min") := glob_boot ok (by rfl) (by decide +kernel)
theorem g_sum {B : Base} (ok : BaseOk B) : Glob B (Str.ofString "sum") (.builtin "sum") := glob_boot ok (by rfl) (by decide +kernel)
theorem g_bool {B : Base} (ok : BaseOk B) : Glob B (Str.ofString "bool") (.type "bool") := glob_boot ok (by rfl) (by decide +kernel)
theorem g_list {B : Base} (ok : BaseOk B) : Glob B (Str.ofString "list") (.type "list") := glob_boot ok (by rfl) (by decide +kernel)
theorem g_range {B : Base} (ok : BaseOk B) : Glob B (Str.ofString "range") (.type "range") := glob_boot ok (by rfl) (by decide +kernel)
theorem g_reversed {B : Base} (ok : BaseOk B) : Glob B (Str.ofString "reversed") (.type "reversed") := glob_boot ok (by rfl) (by decide +kernel)
theorem g_tuple {B : Base} (ok : BaseOk B) : Glob B (Str.ofString "tuple") (.type "tuple") := glob_boot ok (by rfl) (by decide +kernel)
theorem g__substitution_cost {B : Base} (ok : BaseOk B) : Glob B (Str.ofString "_substitution_cost") (.ref 45) := glob_of ok (by rfl)
theorem g__levenshtein_distance {B : Base} (ok : BaseOk B) : Glob B (Str.ofString "_levenshtein_distance") (.ref 52) := glob_of ok (by rfl)
theorem g__div2n1n {B : Base} (ok : BaseOk B) : Glob B (Str.ofString "_div2n1n") (.ref 59) := glob_of ok (by rfl)
theorem g__div3n2n {B : Base} (ok : BaseOk B) : Glob B (Str.ofString "_div3n2n") (.ref 66) := glob_of ok (by rfl)
theorem g__int2digits {B : Base} (ok : BaseOk B) : Glob B (Str.ofString "_int2digits") (.ref 73) := glob_of ok (by rfl)
theorem g__digits2int {B : Base} (ok : BaseOk B) : Glob B (Str.ofString "_digits2int") (.ref 80) := glob_of ok (by rfl)
theorem g__divmod_pos {B : Base} (ok : BaseOk B) : Glob B (Str.ofString "_divmod_pos") (.ref 87) := glob_of ok (by rfl)
theorem g_int_divmod {B : Base} (ok : BaseOk B) : Glob B (Str.ofString "int_divmod") (.ref 94) := glob_of ok (by rfl)
theorem g_quotedata {B : Base} (ok : BaseOk B) : Glob B (Str.ofString "quotedata") (.ref 111) := glob_of ok (by rfl)
theorem g__fix_eols {B : Base} (ok : BaseOk B) : Glob B (Str.ofString "_fix_eols") (.ref 118) := glob_of ok (by rfl)
theorem g_Whitespace {B : Base} (ok : BaseOk B) : Glob B (Str.ofString "Whitespace") (.ref 180) := glob_of ok (by rfl)
theorem g__law_numbers {B : Base} (ok : BaseOk B) : Glob B (Str.ofString "_law_numbers") (.ref 189) := glob_of ok (by rfl)
theorem g__law_shares {B : Base} (ok : BaseOk B) : Glob B (Str.ofString "_law_shares") (.ref 194) := glob_of ok (by rfl)
theorem g__law_posts {B : Base} (ok : BaseOk B) : Glob B (Str.ofString "_law_posts") (.ref 201) := glob_of ok (by rfl)
theorem g__law_crowd {B : Base} (ok : BaseOk B) : Glob B (Str.ofString "_law_crowd") (.ref 206) := glob_of ok (by rfl)
theorem g__law_lead {B : Base} (ok : BaseOk B) : Glob B (Str.ofString "_law_lead") (.ref 211) := glob_of ok (by rfl)
theorem g_law {B : Base} (ok : BaseOk B) : Glob B (Str.ofString "law") (.ref 216) := glob_of ok (by rfl)
theorem k__substitution_cost {B : Base} (ok : BaseOk B) : Keep B (.ref 45) := Keep.func (ok.frag 45 _ rfl) rfl
theorem k__levenshtein_distance {B : Base} (ok : BaseOk B) : Keep B (.ref 52) := Keep.func (ok.frag 52 _ rfl) rfl
theorem k__div2n1n {B : Base} (ok : BaseOk B) : Keep B (.ref 59) := Keep.func (ok.frag 59 _ rfl) rfl
theorem k__div3n2n {B : Base} (ok : BaseOk B) : Keep B (.ref 66) := Keep.func (ok.frag 66 _ rfl) rfl
theorem k__int2digits {B : Base} (ok : BaseOk B) : Keep B (.ref 73) := Keep.func (ok.frag 73 _ rfl) rfl
theorem k__digits2int {B : Base} (ok : BaseOk B) : Keep B (.ref 80) := Keep.func (ok.frag 80 _ rfl) rfl
theorem k__divmod_pos {B : Base} (ok : BaseOk B) : Keep B (.ref 87) := Keep.func (ok.frag 87 _ rfl) rfl
theorem k_int_divmod {B : Base} (ok : BaseOk B) : Keep B (.ref 94) := Keep.func (ok.frag 94 _ rfl) rfl
theorem k_quotedata {B : Base} (ok : BaseOk B) : Keep B (.ref 111) := Keep.func (ok.frag 111 _ rfl) rfl
theorem k__fix_eols {B : Base} (ok : BaseOk B) : Keep B (.ref 118) := Keep.func (ok.frag 118 _ rfl) rfl
theorem k__law_numbers {B : Base} (ok : BaseOk B) : Keep B (.ref 189) := Keep.func (ok.frag 189 _ rfl) rfl
theorem k__law_shares {B : Base} (ok : BaseOk B) : Keep B (.ref 194) := Keep.func (ok.frag 194 _ rfl) rfl
theorem k__law_posts {B : Base} (ok : BaseOk B) : Keep B (.ref 201) := Keep.func (ok.frag 201 _ rfl) rfl
theorem k__law_crowd {B : Base} (ok : BaseOk B) : Keep B (.ref 206) := Keep.func (ok.frag 206 _ rfl) rfl
theorem k__law_lead {B : Base} (ok : BaseOk B) : Keep B (.ref 211) := Keep.func (ok.frag 211 _ rfl) rfl
theorem k_law {B : Base} (ok : BaseOk B) : Keep B (.ref 216) := Keep.func (ok.frag 216 _ rfl) rfl
noncomputable def xs_substitution_cost : Names := [(Str.ofString "ch_a", .loc), (Str.ofString "ch_b", .loc)]
noncomputable def gs_substitution_cost : List Str := [Str.ofString "_CASE_COST", Str.ofString "_MOVE_COST"]
noncomputable def w_substitution_cost : {f : List V → Option V // ∀ B, BaseOk B → FnOk B (5 + 1) (.ref 45) f} := ⟨pfn [(Str.ofString "ch_a", .loc), (Str.ofString "ch_b", .loc)] 2 _, fun B ok =>
  fn_ok (np := 2) (gs := [Str.ofString "_CASE_COST", Str.ofString "_MOVE_COST"]) ok.lim (ok.frag 45 _ rfl) rfl rfl rfl rfl rfl (PySem.W.codeRec_of ok.frag rfl) (fscope_of (by decide +kernel)) (by decide) (vals2 fun _ _ => rfl)
    (X_cons (X_if (T_cmp eq_ok (E_name (i := 0) rfl) (E_name (i := 1) rfl)) (X_cons (X_ret E_int)
    X_nil) X_nil)
    (X_cons (X_if (T_cmp eq_ok (E_meth PySem.F.plainAttrs_str PySem.F.slot_str_lower PySem.F.type_str_lower lower_ok (E_name (i := 0) rfl) A_nil) (E_meth PySem.F.plainAttrs_str PySem.F.slot_str_lower PySem.F.type_str_lower lower_ok (E_name (i := 1) rfl) A_nil)) (X_cons (X_ret (E_gint (List.mem_of_getElem? (i := 0) rfl) (glob_of ok (by rfl))))
    X_nil) X_nil)
    (X_cons (X_ret (E_gint (List.mem_of_getElem? (i := 1) rfl) (glob_of ok (by rfl))))
    X_nil)))⟩
end Mine
/-! part 16 -/
namespace Mine
open PySem PySem.Calls PyProof.Rows
noncomputable def xs_levenshtein_distance : Names := [(Str.ofString "a", .loc), (Str.ofString "b", .loc), (Str.ofString "max_cost", .loc), (Str.ofString "pre", .loc), (Str.ofString "post", .loc), (Str.ofString "row", .loc), (Str.ofString "result", .loc), (Str.ofString "bindex", .loc), (Str.ofString "bchar", .loc), (Str.ofString "distance", .loc), (Str.ofString "minimum", .loc), (Str.ofString "index", .loc), (Str.ofString "substitute", .loc), (Str.ofString "insert_delete", .loc)]
noncomputable def gs_levenshtein_distance : List Str := [Str.ofString "_MOVE_COST", Str.ofString "len", Str.ofString "_MAX_STRING_SIZE", Str.ofString "list", Str.ofString "range", Str.ofString "_substitution_cost", Str.ofString "min"]
noncomputable def w_levenshtein_distance : {f : List V → Option V // ∀ B, BaseOk B → FnOk B (10 + 1) (.ref 52) f} := ⟨pfn [(Str.ofString "a", .loc), (Str.ofString "b", .loc), (Str.ofString "max_cost", .loc), (Str.ofString "pre", .loc), (Str.ofString "post", .loc), (Str.ofString "row", .loc), (Str.ofString "result", .loc), (Str.ofString "bindex", .loc), (Str.ofString "bchar", .loc), (Str.ofString "distance", .loc), (Str.ofString "minimum", .loc), (Str.ofString "index", .loc), (Str.ofString "substitute", .loc), (Str.ofString "insert_delete", .loc)] 3 _, fun B ok =>
  fn_ok (np := 3) (gs := [Str.ofString "_MOVE_COST", Str.ofString "len", Str.ofString "_MAX_STRING_SIZE", Str.ofString "list", Str.ofString "range", Str.ofString "_substitution_cost", Str.ofString "min"]) ok.lim (ok.frag 52 _ rfl) rfl rfl rfl rfl rfl (PySem.W.codeRec_of ok.frag rfl) (fscope_of (by decide +kernel)) (by decide) (vals3 fun _ _ _ => rfl)
    (X_cons (X_if (T_cmp eq_ok (E_name (i := 0) rfl) (E_name (i := 1) rfl)) (X_cons (X_ret E_int)
    X_nil) X_nil)
    (X_cons (X_assign (i := 3) rfl (by decide) E_int)
    (X_cons (X_while (N := 64) (T_boolop (T_and_cons (T_val (E_sliceS (E_name (i := 0) rfl) (P_some (E_name (i := 3) rfl)) P_none)) (T_and_cons (T_val (E_sliceS (E_name (i := 1) rfl) (P_some (E_name (i := 3) rfl)) P_none)) (T_and_cons (T_cmp eq_ok (E_item (E_name (i := 0) rfl) (E_name (i := 3) rfl)) (E_item (E_name (i := 1) rfl) (E_name (i := 3) rfl))) T_and_nil)))) (X_cons (X_aug (i := 3) rfl (by decide) iadd_ok E_int)
    X_nil))
    (X_cons (X_assign (i := 0) rfl (by decide) (E_sliceS (E_name (i := 0) rfl) (P_some (E_name (i := 3) rfl)) P_none))
    (X_cons (X_assign (i := 1) rfl (by decide) (E_sliceS (E_name (i := 1) rfl) (P_some (E_name (i := 3) rfl)) P_none))
    (X_cons (X_assign (i := 4) rfl (by decide) E_int)
    (X_cons (X_while (N := 64) (T_boolop (T_and_cons (T_val (E_sliceS (E_name (i := 0) rfl) P_none (P_some (E_or (E_name (i := 4) rfl) E_none)))) (T_and_cons (T_val (E_sliceS (E_name (i := 1) rfl) P_none (P_some (E_or (E_name (i := 4) rfl) E_none)))) (T_and_cons (T_cmp eq_ok (E_item (E_name (i := 0) rfl) (E_bin sub_ok (E_name (i := 4) rfl) E_int)) (E_item (E_name (i := 1) rfl) (E_bin sub_ok (E_name (i := 4) rfl) E_int))) T_and_nil)))) (X_cons (X_aug (i := 4) rfl (by decide) isub_ok E_int)
    X_nil))
    (X_cons (X_assign (i := 0) rfl (by decide) (E_sliceS (E_name (i := 0) rfl) P_none (P_some (E_or (E_name (i := 4) rfl) E_none))))
    (X_cons (X_assign (i := 1) rfl (by decide) (E_sliceS (E_name (i := 1) rfl) P_none (P_some (E_or (E_name (i := 4) rfl) E_none))))
    (X_cons (X_if (T_boolop (T_or_cons (T_not (T_val (E_name (i := 0) rfl))) (T_or_cons (T_not (T_val (E_name (i := 1) rfl))) T_or_nil))) (X_cons (X_ret (E_bin mul_ok (E_gint (List.mem_of_getElem? (i := 0) rfl) (glob_of ok (by rfl))) (E_bin add_ok (E_call (List.mem_of_getElem? (i := 1) rfl) (g_len ok) Keep.builtin len_ok (A_cons (E_name (i := 0) rfl) A_nil)) (E_call (List.mem_of_getElem? (i := 1) rfl) (g_len ok) Keep.builtin len_ok (A_cons (E_name (i := 1) rfl) A_nil)))))
    X_nil) X_nil)
    (X_cons (X_if (T_boolop (T_or_cons (T_cmp gt_ok (E_call (List.mem_of_getElem? (i := 1) rfl) (g_len ok) Keep.builtin len_ok (A_cons (E_name (i := 0) rfl) A_nil)) (E_gint (List.mem_of_getElem? (i := 2) rfl) (glob_of ok (by rfl)))) (T_or_cons (T_cmp gt_ok (E_call (List.mem_of_getElem? (i := 1) rfl) (g_len ok) Keep.builtin len_ok (A_cons (E_name (i := 1) rfl) A_nil)) (E_gint (List.mem_of_getElem? (i := 2) rfl) (glob_of ok (by rfl)))) T_or_nil))) (X_cons (X_ret (E_bin add_ok (E_name (i := 2) rfl) E_int))
    X_nil) X_nil)
    (X_cons (X_if (T_cmp lt_ok (E_call (List.mem_of_getElem? (i := 1) rfl) (g_len ok) Keep.builtin len_ok (A_cons (E_name (i := 1) rfl) A_nil)) (E_call (List.mem_of_getElem? (i := 1) rfl) (g_len ok) Keep.builtin len_ok (A_cons (E_name (i := 0) rfl) A_nil))) (X_cons (X_swap2 (i := 0) (j := 1) rfl rfl (E_tup (A_cons (E_name (i := 1) rfl) (A_cons (E_name (i := 0) rfl) A_nil))) (by decide) (by intro env hb hx hy; unfold swappedStores; simp only [hb, List.filterMap_cons, List.filterMap_nil, hx, hy]; with_unfolding_all rfl))
    X_nil) X_nil)
    (X_cons (X_if (T_cmp gt_ok (E_bin mul_ok (E_bin sub_ok (E_call (List.mem_of_getElem? (i := 1) rfl) (g_len ok) Keep.builtin len_ok (A_cons (E_name (i := 1) rfl) A_nil)) (E_call (List.mem_of_getElem? (i := 1) rfl) (g_len ok) Keep.builtin len_ok (A_cons (E_name (i := 0) rfl) A_nil))) (E_gint (List.mem_of_getElem? (i := 0) rfl) (glob_of ok (by rfl)))) (E_name (i := 2) rfl)) (X_cons (X_ret (E_bin add_ok (E_name (i := 2) rfl) E_int))
    X_nil) X_nil)
    (X_cons (X_mut (i := 5) rfl (by decide) (FL_range3 (List.mem_of_getElem? (i := 3) rfl) (g_list ok) (List.mem_of_getElem? (i := 4) rfl) (g_range ok) (E_gint (List.mem_of_getElem? (i := 0) rfl) (glob_of ok (by rfl))) (E_bin mul_ok (E_gint (List.mem_of_getElem? (i := 0) rfl) (glob_of ok (by rfl))) (E_bin add_ok (E_call (List.mem_of_getElem? (i := 1) rfl) (g_len ok) Keep.builtin len_ok (A_cons (E_name (i := 0) rfl) A_nil)) E_int)) (E_gint (List.mem_of_getElem? (i := 0) rfl) (glob_of ok (by rfl)))))
    (X_cons (X_assign (i := 6) rfl (by decide) E_int)
    (X_cons (X_for (i := 7) rfl (by decide) (It_range1 (List.mem_of_getElem? (i := 4) rfl) (g_range ok) (E_call (List.mem_of_getElem? (i := 1) rfl) (g_len ok) Keep.builtin len_ok (A_cons (E_name (i := 1) rfl) A_nil))) (X_cons (X_assign (i := 8) rfl (by decide) (E_item (E_name (i := 1) rfl) (E_name (i := 7) rfl)))
    (X_cons (X_assign2 (i := 9) (j := 6) rfl (by decide) rfl (by decide) (E_bin mul_ok (E_name (i := 7) rfl) (E_gint (List.mem_of_getElem? (i := 0) rfl) (glob_of ok (by rfl)))))
    (X_cons (X_assign (i := 10) rfl (by decide) E_int)
    (X_cons (X_for (i := 11) rfl (by decide) (It_range1 (List.mem_of_getElem? (i := 4) rfl) (g_range ok) (E_call (List.mem_of_getElem? (i := 1) rfl) (g_len ok) Keep.builtin len_ok (A_cons (E_name (i := 0) rfl) A_nil))) (X_cons (X_assign (i := 12) rfl (by decide) (E_bin add_ok (E_name (i := 9) rfl) (E_call (List.mem_of_getElem? (i := 5) rfl) (g__substitution_cost ok) (k__substitution_cost ok) ((w_substitution_cost.2 _ ok).up (by decide)) (A_cons (E_name (i := 8) rfl) (A_cons (E_item (E_name (i := 0) rfl) (E_name (i := 11) rfl)) A_nil)))))
    (X_cons (X_assign (i := 9) rfl (by decide) (E_itemN (N_ref (i := 5) rfl) (E_name (i := 11) rfl)))
    (X_cons (X_assign (i := 13) rfl (by decide) (E_bin add_ok (E_call (List.mem_of_getElem? (i := 6) rfl) (g_min ok) Keep.builtin min2_ok (A_cons (E_name (i := 6) rfl) (A_cons (E_name (i := 9) rfl) A_nil))) (E_gint (List.mem_of_getElem? (i := 0) rfl) (glob_of ok (by rfl)))))
    (X_cons (X_assign (i := 6) rfl (by decide) (E_call (List.mem_of_getElem? (i := 6) rfl) (g_min ok) Keep.builtin min2_ok (A_cons (E_name (i := 13) rfl) (A_cons (E_name (i := 12) rfl) A_nil))))
    (X_cons (X_setitem (i := 5) rfl (E_name (i := 6) rfl) (E_name (i := 11) rfl))
    (X_cons (X_if (T_cmp lt_ok (E_name (i := 6) rfl) (E_name (i := 10) rfl)) (X_cons (X_assign (i := 10) rfl (by decide) (E_name (i := 6) rfl))
    X_nil) X_nil)
    X_nil)))))))
    (X_cons (X_if (T_cmp gt_ok (E_name (i := 10) rfl) (E_name (i := 2) rfl)) (X_cons (X_ret (E_bin add_ok (E_name (i := 2) rfl) E_int))
    X_nil) X_nil)
    X_nil))))))
    (X_cons (X_ret (E_name (i := 6) rfl))
    X_nil)))))))))))))))))⟩
end Mine
/-! part 17 -/
namespace Mine
open PySem PySem.Calls PyProof.Rows
noncomputable def xs_div2n1n : Names := [(Str.ofString "a", .loc), (Str.ofString "b", .loc), (Str.ofString "n", .loc), (Str.ofString "pad", .loc), (Str.ofString "half_n", .loc), (Str.ofString "mask", .loc), (Str.ofString "b1", .loc), (Str.ofString "b2", .loc), (Str.ofString "q1", .loc), (Str.ofString "r", .loc), (Str.ofString "q2", .loc)]
noncomputable def gs_div2n1n : List Str := [Str.ofString "_DIV_LIMIT", Str.ofString "divmod", Str.ofString "_div3n2n"]
noncomputable def w_div2n1n : {f : List V → Option V // ∀ B, BaseOk B → FnOk B (10 + 1) (.ref 59) f} := ⟨pfn [(Str.ofString "a", .loc), (Str.ofString "b", .loc), (Str.ofString "n", .loc), (Str.ofString "pad", .loc), (Str.ofString "half_n", .loc), (Str.ofString "mask", .loc), (Str.ofString "b1", .loc), (Str.ofString "b2", .loc), (Str.ofString "q1", .loc), (Str.ofString "r", .loc), (Str.ofString "q2", .loc)] 3 _, fun B ok =>
  fn_ok (np := 3) (gs := [Str.ofString "_DIV_LIMIT", Str.ofString "divmod", Str.ofString "_div3n2n"]) ok.lim (ok.frag 59 _ rfl) rfl rfl rfl rfl rfl (PySem.W.codeRec_of ok.frag rfl) (fscope_of (by decide +kernel)) (by decide) (vals3 fun _ _ _ => rfl)
    (X_cons (X_if (T_cmp le_ok (E_bin sub_ok (E_meth PySem.F.plainAttrs_int PySem.F.slot_int_bit_length PySem.F.type_int_bit_length bits_ok (E_name (i := 0) rfl) A_nil) (E_name (i := 2) rfl)) (E_gint (List.mem_of_getElem? (i := 0) rfl) (glob_of ok (by rfl)))) (X_cons (X_ret (E_call (List.mem_of_getElem? (i := 1) rfl) (g_divmod ok) Keep.builtin divmod_ok (A_cons (E_name (i := 0) rfl) (A_cons (E_name (i := 1) rfl) A_nil))))
    X_nil) X_nil)
    X_no)⟩
noncomputable def xs_law_numbers : Names := [(Str.ofString "script", .loc), (Str.ofString "drawn", .loc)]
noncomputable def gs_law_numbers : List Str := [Str.ofString "len"]
noncomputable def w_law_numbers : {f : List V → Option V // ∀ B, BaseOk B → FnOk B (10 + 1) (.ref 189) f} := ⟨pfn [(Str.ofString "script", .loc), (Str.ofString "drawn", .loc)] 1 _, fun B ok =>
  fn_ok (np := 1) (gs := [Str.ofString "len"]) ok.lim (ok.frag 189 _ rfl) rfl rfl rfl rfl rfl (PySem.W.codeRec_of ok.frag rfl) (fscope_of (by decide +kernel)) (by decide) (vals1 fun _ => rfl)
    (X_cons (X_c1 (iy := 1) (ys := [(Str.ofString "x", .loc)]) (hs := []) (m := 1) (js := []) (i := 0) (cscope_of (by decide +kernel)) rfl rfl (by decide) (It_list (E_fresh (FL_slice (N_val (E_name (i := 0) rfl)) P_none (P_some E_int)))) (E_bin mod_ok (E_name (i := 0) rfl) (E_bin pow_ok E_int E_int)) rfl (by decide +kernel))
    (X_cons (X_ret (E_fresh (FL_add (N_val (E_name (i := 1) rfl)) (N_fresh (FL_slice (N_fresh (FL_disp (A_cons E_int (A_cons E_int (A_cons E_int (A_cons E_int (A_cons E_int (A_cons E_int A_nil)))))))) (P_some (E_call (List.mem_of_getElem? (i := 0) rfl) (g_len ok) Keep.builtin len_ok (A_cons (E_name (i := 1) rfl) A_nil))) P_none)))))
    X_nil))⟩
noncomputable def xs_law_shares : Names := [(Str.ofString "parts", .own)]
noncomputable def gs_law_shares : List Str := [Str.ofString "range", Str.ofString "min", Str.ofString "max"]
noncomputable def w_law_shares : {f : List V → Option V // ∀ B, BaseOk B → FnOk B (10 + 1) (.ref 194) f} := ⟨pfn [(Str.ofString "parts", .own)] 1 _, fun B ok =>
  fn_ok (np := 1) (gs := [Str.ofString "range", Str.ofString "min", Str.ofString "max"]) ok.lim (ok.frag 194 _ rfl) rfl rfl rfl rfl rfl (PySem.W.codeRec_of ok.frag rfl) (fscope_of (by decide +kernel)) (by decide) (vals1 fun _ => rfl)
    (X_cons (X_ret (E_fresh (FL_c1 (ys := [(Str.ofString "n", .loc), (Str.ofString "parts", .cap)]) (hs := []) (m := 1) (js := [0]) (i := 0) (cscope_of (by decide +kernel)) rfl (by decide) (It_range2 (List.mem_of_getElem? (i := 0) rfl) (g_range ok) (E_call (List.mem_of_getElem? (i := 1) rfl) (g_min ok) Keep.builtin (now_ok min_now) (A_cons (E_name (i := 0) rfl) A_nil)) (E_bin add_ok (E_call (List.mem_of_getElem? (i := 2) rfl) (g_max ok) Keep.builtin (now_ok max_now) (A_cons (E_name (i := 0) rfl) A_nil)) E_int)) (E_meth PySem.F.plainAttrs_list PySem.F.slot_list_count PySem.F.type_list_count countL_ok (E_name (i := 1) rfl) (A_cons (E_name (i := 0) rfl) A_nil)))))
    X_nil)⟩
noncomputable def xs_law_crowd : Names := [(Str.ofString "posts", .own), (Str.ofString "hours", .loc)]
noncomputable def gs_law_crowd : List Str := []
noncomputable def w_law_crowd : {f : List V → Option V // ∀ B, BaseOk B → FnOk B (10 + 1) (.ref 206) f} := ⟨pfn [(Str.ofString "posts", .own), (Str.ofString "hours", .loc)] 2 _, fun B ok =>
  fn_ok (np := 2) (gs := []) ok.lim (ok.frag 206 _ rfl) rfl rfl rfl rfl rfl (PySem.W.codeRec_of ok.frag rfl) (fscope_of (by decide +kernel)) (by decide) (vals2 fun _ _ => rfl)
    (X_cons (X_ret (E_fresh (FL_c2 (ys := [(Str.ofString "hour", .loc), (Str.ofString "row", .loc), (Str.ofString "posts", .cap)]) (hs := []) (m := 2) (js := [0]) (i := 0) (j := 1) (cscope_of (by decide +kernel)) rfl (by decide) rfl (by decide) (It_list (E_name (i := 1) rfl)) (It_list (E_fresh (FL_slice (N_val (E_meth PySem.F.plainAttrs_str PySem.F.slot_str_split PySem.F.type_str_split split_ok (E_item (E_name (i := 2) rfl) (E_name (i := 0) rfl)) (A_cons (E_str (l := [13, 10]) rfl) A_nil))) P_none (P_some E_int)))) (E_name (i := 1) rfl))))
    X_nil)⟩
noncomputable def xs_law_lead : Names := [(Str.ofString "sizes", .loc)]
noncomputable def gs_law_lead : List Str := []
noncomputable def w_law_lead : {f : List V → Option V // ∀ B, BaseOk B → FnOk B (10 + 1) (.ref 211) f} := ⟨pfn [(Str.ofString "sizes", .loc)] 1 _, fun B ok =>
  fn_ok (np := 1) (gs := []) ok.lim (ok.frag 211 _ rfl) rfl rfl rfl rfl rfl (PySem.W.codeRec_of ok.frag rfl) (fscope_of (by decide +kernel)) (by decide) (vals1 fun _ => rfl)
    (X_cons (X_ret (E_meth PySem.F.plainAttrs_str PySem.F.slot_str_join PySem.F.type_str_join join_ok (E_str (l := []) rfl) (A_cons (E_fresh (FL_c1 (ys := [(Str.ofString "size", .loc)]) (hs := []) (m := 1) (js := []) (i := 0) (cscope_of (by decide +kernel)) rfl (by decide) (It_list (E_name (i := 0) rfl)) (E_bin add_ok (E_bin mul_ok (E_str (l := [32]) rfl) (E_name (i := 0) rfl)) (E_str (l := [9]) rfl)))) A_nil)))
    X_nil)⟩
end Mine
/-! part 18 -/
namespace Mine
open PySem PySem.Calls PyProof.Rows
section
variable {B : Base} {n : Nat} {xs : Names} {gs : List Str}
theorem nodup_rev {α : Type} {l : List α} (h : l.Nodup) : l.reverse.Nodup := by
  unfold List.Nodup at *
  exact List.pairwise_reverse.mpr (h.imp fun h => h.symm)
theorem lookup_mem {β : Type} {x : Str} {v : β} : ∀ {l : List (Str × β)}, (l.map (·.1)).Nodup → (x, v) ∈ l → l.lookup x = some v
  | (y, w) :: r, hn, hm => by
    rw [List.map_cons, List.nodup_cons] at hn
    rw [List.lookup_cons]
    rcases List.mem_cons.mp hm with e | hm
    · cases e; simp
    · have hne : (x == y) = false := beq_eq_false_iff_ne.mpr fun e => hn.1 (by rw [← e]; exact List.mem_map.mpr ⟨_, hm, rfl⟩)
      rw [hne]
      exact lookup_mem hn.2 hm
/-- a frozen function keeps itself -/
theorem keep_fz {A : Around} {F : Fz} {s : Shared} {a : Addr} {o : Obj} {fd : FuncData} {Q : Keeper → Shared → Prop} {E : Value → Shared → Prop} (S : St B F s.heap) (e : F a = some o) (hd : o.data = .func fd) (h : ∀ k, Q k s) : wpAny (model prg B.w) A (keeperOf (.ref a)) Q E s := by
  unfold keeperOf
  refine wpAny_bind (wpAny_load (S.sub _ _ e) ?_)
  rw [hd]
  exact wpAny_pure (h _)
/-- what a body does in the frames of one def -/
noncomputable def ExecsIn (J : Env → Prop) (B : Base) (n : Nat) (xs : Names) (gs : List Str) (sts : List Stmt) (f : S) : Prop :=
  ∀ env A F μ Γ σ s r, J env → AOk n A → St B F s.heap → Rd F μ xs gs env Γ s.heap → Mu F μ σ s.heap → f Γ σ = some r →
    DoS B (Own env xs) A F μ s (execs sts env) (fun F' μ' s' v => FlRep F' v r.1 ∧ Rd F' μ' xs gs env r.2.1 s'.heap ∧ Mu F' μ' r.2.2 s'.heap)
/-- entering a def that captures -/
theorem clo_enterC {A : Around} {F : Fz} {μ : Mus} {σ : AH} {s : Shared} {a : Addr} {o : Obj} {fd : FuncData} {body : List Stmt} {vals : List Value} {sl : List Sl} {names : List Str} {Γr : Cx} {np : Nat} {R : Result → Shared → Prop}
    (hA : AOk (n + 1) A) (hlim : B.h₁.NoLimit) (S : St B F s.heap) (X : Mu F μ σ s.heap) (ho : F a = some o) (hd : o.data = .func fd) (hbody : fd.body = .stmts body) (hgl : fd.globals = mainGlobals) (hbu : fd.builtins = builtinsNs)
    (hcd : s.heap.CodeRec fd.code fd.qualname) (hkind : fd.scope.kind = .function) (hco : fd.scope.isCoroutine = false) (hgen : fd.scope.isGenerator = false) (hnc : ∀ x ∈ fd.scope.names, x.2 ≠ .cell)
    (hknd : ∀ x k, (x, k) ∈ xs → (k = .loc ∧ fd.scope.names.lookup x = some .local) ∨ (k = .cap ∧ fd.scope.names.lookup x = some .free ∧ ∃ c, fd.closure.lookup x = some c)) (hnames : (xs.map (·.1)).Nodup)
    (hnodbg : ∀ x k, (x, k) ∈ xs → (x == ("__debug__" : Str)) = false ∧ (x == ("__classdict__" : Str)) = false) (hglob : ∀ x ∈ gs, fd.scope.names.lookup x = some .globalImplicit)
    (hlen : sl.length = np) (hvl : vals.length = np) (hnp : np + Γr.length = xs.length) (hbind : bindArgs fd ⟨vals, []⟩ = pure (((xs.map (·.1)).take np).zip vals)) (hploc : ∀ i x k, i < np → xs[i]? = some (x, k) → k = .loc) (r : ∀ (i : Nat) (p : Sl), sl[i]? = some p → p ≠ .undef → ∃ v, vals[i]? = some v ∧ SlRep F μ v p)
    (hcap : ∀ i x k p, xs[np + i]? = some (x, k) → Γr[i]? = some p → p ≠ .undef → k = .cap ∧ ∃ c v, fd.closure.lookup x = some c ∧ s.heap.IsCell c (some v) ∧ SlRep F μ v p)
    (hcel : ∀ x c, fd.closure.lookup x = some c → (∃ v, s.heap.IsCell c v) ∧ Away F μ c) (hinj : ∀ x y c, fd.closure.lookup x = some c → fd.closure.lookup y = some c → x = y)
    (h : ∀ env s₁, env.cells = fd.closure → s.heap.get? env.locals = none → (∀ x k, (x, k) ∈ xs → k ≠ .own) → Next B F s F s₁ → Rd F μ xs gs env (sl ++ Γr) s₁.heap → Mu F μ σ s₁.heap → AOk n (A.deeper env) →
      wpAny (model prg B.w) (A.deeper env) (execs body env) (fun fl s' => R (.ok (.ret (match fl with | .ret v => v | _ => .none))) s') (fun e s' => wpAny (model prg B.w) (A.deeper env) (leaving env e) (fun _ s'' => R (.error e) s'') (fun e' s'' => R (.error e') s'') s') s₁) :
    codeAny (model prg B.w) A (.call (.ref a) ⟨vals, []⟩) R s := by
  have kb : ∀ b o, B.h₁.get? b = some o → s.heap.get? b = some o := fun b o e => S.g e
  refine codeAny_call_def (by have := hA.depth; (first | lia | omega)) (S.sub _ _ ho) hd (hlim.keeps kb) hcd hbody (fun M' A' E' Q' hq => by rw [hbind]; exact wpAny_pure hq) hnc (fun x hx => ?_) (fun h₁ hns hk₁ => ?_) hco hgen hkind
  · have hx1 : x.1 ∈ (xs.map (·.1)).take np := (List.of_mem_zip (a := x.1) (b := x.2) hx).1
    obtain ⟨i, hi, e⟩ := List.mem_iff_getElem.mp hx1
    rw [List.length_take] at hi
    rw [List.getElem_take, List.getElem_map] at e
    have hlt : i < xs.length := by simp at hi; (first | lia | omega)
    have e' : xs[i]? = some (x.1, xs[i].2) := by rw [List.getElem?_eq_getElem hlt, ← e]
    have hl := hploc i _ _ (by (first | lia | omega)) e'
    rcases hknd _ _ (List.mem_of_getElem? e') with q | q
    · exact q.2
    · rw [hl] at q; cases q.1
  · have hnone : s.heap.get? s.heap.objs.size = none := get_size _
    have hR : Rd F μ xs gs (callEnv fd s.heap.objs.size a) (sl ++ Γr) h₁ := {
        glob := hgl, bui := hbu, fn := hkind, names := hnames, nodbg := hnodbg
        len := by simp [hlen]; (first | lia | omega)
        knd := fun y k hm => by
          rcases hknd y k hm with ⟨rfl, q⟩ | ⟨rfl, q, hc⟩
          · exact q
          · exact ⟨.inr q, hc⟩
        gl := fun y hy => hglob y hy
        has := fun i y k p e1 e2 hp => by
          by_cases hlt : i < sl.length
          · rw [List.getElem?_append_left hlt] at e2
            obtain ⟨v, ev, rv⟩ := r i p e2 hp
            have hk := hploc i y k (by (first | lia | omega)) e1
            rw [if_pos hk]
            refine ⟨_, v, hns, ?_, rv⟩
            have hmem : (y, v) ∈ ((xs.map (·.1)).take np).zip vals := by
              refine List.mem_of_getElem? (i := i) ?_
              rw [List.getElem?_zip_eq_some]
              exact ⟨by rw [List.getElem?_take_of_lt (by (first | lia | omega))]; simp [e1], ev⟩
            have hn1 : ((((xs.map (·.1)).take np).zip vals).map (·.1)).Nodup := by
              rw [List.map_fst_zip (by simp; (first | lia | omega))]
              exact hnames.sublist (List.take_sublist ..)
            have e9 := nodup_rev hn1
            rw [← List.map_reverse] at e9
            exact lookup_mem e9 (List.mem_reverse.mpr hmem)
          · rw [List.getElem?_append_right (Nat.not_lt.mp hlt)] at e2
            obtain ⟨rfl, c, v, h1, ⟨o', h2, h3⟩, h4⟩ := hcap (i - sl.length) y k p (by rw [← hlen, show sl.length + (i - sl.length) = i by (first | lia | omega)]; exact e1) e2 hp
            rw [if_neg (by decide)]
            exact ⟨c, v, h1, ⟨o', hk₁ _ _ h2, h3⟩, h4⟩
        loc := ⟨_, hns⟩
        cel := fun y c e => let ⟨v, o', h1, h2⟩ := (hcel y c e).1; ⟨v, o', hk₁ _ _ h1, h2⟩
        apart := fun y z c e1 e2 => hinj y z c e1 e2
        locC := fun y c e => by
          obtain ⟨v, o', h1, h2⟩ := (hcel y c e).1
          exact Nat.ne_of_lt (Heap.lt_size h1)
        locF := ⟨S.none hnone, S.notTab hnone, fun hm => by obtain ⟨o', e⟩ := X.there _ hm; exact absurd (Heap.lt_size e) (Nat.lt_irrefl _)⟩
        celF := fun y c e => (hcel y c e).2 }
    refine h _ _ rfl hnone (fun x k hm e => ?_) (Next.keeps (t := _) S hk₁) hR (X.next (Next.keeps (t := _) S hk₁)) ⟨hA.handled, by have := hA.depth; show A.depth + 1 + 8 * n < _; (first | lia | omega), by have := hA.units; show A.units + 3 + 100 * n < _; (first | lia | omega)⟩
    subst e
    rcases hknd x _ hm with q | q <;> cases q.1
/-- .. with plain values -/
theorem clo_enter {A : Around} {F : Fz} {μ : Mus} {σ : AH} {s : Shared} {a : Addr} {o : Obj} {fd : FuncData} {body : List Stmt} {vals : List Value} {ps : List V} {names : List Str} {Γr : Cx} {np : Nat} {Q : Value → Shared → Prop} {E : Value → Shared → Prop}
    (hA : AOk (n + 1) A) (hlim : B.h₁.NoLimit) (S : St B F s.heap) (X : Mu F μ σ s.heap) (ho : F a = some o) (hd : o.data = .func fd) (hbody : fd.body = .stmts body) (hgl : fd.globals = mainGlobals) (hbu : fd.builtins = builtinsNs)
    (hcd : s.heap.CodeRec fd.code fd.qualname) (hkind : fd.scope.kind = .function) (hco : fd.scope.isCoroutine = false) (hgen : fd.scope.isGenerator = false) (hnc : ∀ x ∈ fd.scope.names, x.2 ≠ .cell)
    (hknd : ∀ x k, (x, k) ∈ xs → (k = .loc ∧ fd.scope.names.lookup x = some .local) ∨ (k = .cap ∧ fd.scope.names.lookup x = some .free ∧ ∃ c, fd.closure.lookup x = some c)) (hnames : (xs.map (·.1)).Nodup)
    (hnodbg : ∀ x k, (x, k) ∈ xs → (x == ("__debug__" : Str)) = false ∧ (x == ("__classdict__" : Str)) = false) (hglob : ∀ x ∈ gs, fd.scope.names.lookup x = some .globalImplicit)
    (hlen : ps.length = np) (hnp : np + Γr.length = xs.length) (hbind : bindArgs fd ⟨vals, []⟩ = pure (((xs.map (·.1)).take np).zip vals)) (hploc : ∀ i x k, i < np → xs[i]? = some (x, k) → k = .loc) (r : Reps F vals ps)
    (hcap : ∀ i x k p, xs[np + i]? = some (x, k) → Γr[i]? = some p → p ≠ .undef → k = .cap ∧ ∃ c v, fd.closure.lookup x = some c ∧ s.heap.IsCell c (some v) ∧ SlRep F μ v p)
    (hcel : ∀ x c, fd.closure.lookup x = some c → (∃ v, s.heap.IsCell c v) ∧ Away F μ c) (hinj : ∀ x y c, fd.closure.lookup x = some c → fd.closure.lookup y = some c → x = y)
    (h : ∀ env s₁, env.cells = fd.closure → s.heap.get? env.locals = none → (∀ x k, (x, k) ∈ xs → k ≠ .own) → Next B F s F s₁ → Rd F μ xs gs env (ps.map .val ++ Γr) s₁.heap → Mu F μ σ s₁.heap → AOk n (A.deeper env) →
      wpAny (model prg B.w) (A.deeper env) (execs body env) (fun fl s' => Q (match fl with | .ret v => v | _ => .none) s') (fun e s' => wpAny (model prg B.w) (A.deeper env) (leaving env e) (fun _ s'' => E e s'') (fun e' s'' => E e' s'') s') s₁) :
    wpAny (model prg B.w) A (call (.ref a) vals []) Q E s :=
  wpAny_call (clo_enterC (R := fun r s' => match r with | .ok (.ret v) => Q v s' | .ok _ => False | .error e => E e s') (sl := ps.map .val) (names := []) hA hlim S X ho hd hbody hgl hbu hcd hkind hco hgen hnc hknd hnames hnodbg hglob (by rw [List.length_map]; exact hlen) (by rw [r.length]; exact hlen) hnp hbind hploc (fun i p e hp => by
    rw [List.getElem?_map] at e
    obtain ⟨q, eq, rfl⟩ := Option.map_eq_some_iff.mp e
    exact r.get' eq) hcap hcel hinj h)
theorem fn_okJ {a : Addr} {o : Obj} {fd : FuncData} {body : List Stmt} {np : Nat} {g : S} (hlim : B.h₁.NoLimit) (ho : B.h₁.get? a = some o) (hd : o.data = .func fd) (hbody : fd.body = .stmts body) (hclo : fd.closure = []) (hgl : fd.globals = mainGlobals) (hbu : fd.builtins = builtinsNs)
    (hcd : B.h₁.CodeRec fd.code fd.qualname) (hsc : FScope fd.scope xs gs) (hnp : np ≤ xs.length) (hbind : ∀ vals : List Value, vals.length = np → bindArgs fd ⟨vals, []⟩ = pure (((xs.map (·.1)).take np).zip vals)) (h : ExecsIn (fun env => env.code = fd.code ∧ env.qual = fd.qualname ++ ".<locals>.") B n xs gs body g) :
    FnOk B (n + 1) (.ref a) (pfn xs np g) := by
  intro A F s vals ps p hA S r hf Q E hQ
  unfold pfn at hf
  split at hf
  · rename_i hlen
    obtain ⟨⟨fl, Γ', σ'⟩, eg, hf⟩ := Option.bind_eq_some_iff.mp hf
    have hvl : vals.length = np := by rw [r.length]; exact hlen
    have kb : ∀ b o, B.h₁.get? b = some o → s.heap.get? b = some o := fun b o e => S.sub _ _ (S.base _ _ e)
    refine wpAny_call (codeAny_call_cells (by have := hA.depth; (first | lia | omega)) (kb _ _ ho) hd (hlim.keeps kb) (hcd.keeps kb) hbody (hbind vals hvl) hclo (fun x hx => ?_) (fun s₁ x => ?_) hsc.co hsc.gen hsc.kind)
    · -- the parameters' kinds
      have hx1 : x.1 ∈ xs.map (·.1) := List.mem_of_mem_take (List.of_mem_zip (a := x.1) (b := x.2) hx).1
      obtain ⟨⟨y, k⟩, hy, e⟩ := List.mem_map.mp hx1
      rcases hsc.knd y k hy with ⟨_, q⟩ | ⟨_, q⟩
      · exact .inl (by rw [← e]; exact q)
      · refine .inr ⟨by rw [← e]; exact q, ?_⟩
        obtain ⟨c, h1, _⟩ := cellsFrom_has fd.scope.names (s.heap.objs.size + 1) [] (mem_of_lookup' q)
        rw [← e, h1]; rfl
    · have hn1 : ((((xs.map (·.1)).take np).zip vals).map (·.1)).Nodup := by
        rw [List.map_fst_zip (by simp; (first | lia | omega))]
        exact hsc.names.sublist (List.take_sublist ..)
      have hnone : s.heap.get? s.heap.objs.size = none := get_size _
      obtain ⟨h1, tk, hs1⟩ := x.toInCall.same
      have hkk := x.toInCall.keep
      have hab : ∀ y c, (callEnvC fd s.heap.objs.size a).cells.lookup y = some c → s.heap.objs.size < c := fun y c e => x.above y c (mem_of_lookup e)
      have hR : Rd F [] xs gs (callEnvC fd s.heap.objs.size a) (ps.map .val ++ List.replicate (xs.length - np) .undef) s₁.heap := {
        glob := hgl, bui := hbu, fn := hsc.kind, names := hsc.names, nodbg := hsc.nodbg
        len := by simp [hlen]; (first | lia | omega)
        knd := fun y k hm => by
          rcases hsc.knd y k hm with ⟨rfl, q⟩ | ⟨rfl, q⟩
          · exact q
          · obtain ⟨c, h1, _⟩ := cellsFrom_has fd.scope.names (s.heap.objs.size + 1) [] (mem_of_lookup' q)
            exact ⟨q, c, h1⟩
        gl := fun y hy => hsc.glob y hy
        has := fun i y k p e1 e2 hp => by
          by_cases hlt : i < ps.length
          · rw [List.getElem?_append_left (by simpa using hlt), List.getElem?_map] at e2
            obtain ⟨q, eq, rfl⟩ := Option.map_eq_some_iff.mp e2
            obtain ⟨v, ev, rv⟩ := r.get' eq
            have hmem : (y, v) ∈ ((xs.map (·.1)).take np).zip vals := by
              refine List.mem_of_getElem? (i := i) ?_
              rw [List.getElem?_zip_eq_some]
              exact ⟨by rw [List.getElem?_take_of_lt (by (first | lia | omega))]; simp [e1], ev⟩
            rcases hsc.knd y k (List.mem_of_getElem? e1) with ⟨rfl, q'⟩ | ⟨rfl, q'⟩
            · rw [if_pos rfl]
              exact ⟨_, v, x.toInCall.ns, bindL_at _ _ hn1 hmem q', rv⟩
            · rw [if_neg (by decide)]
              obtain ⟨c, h1, _⟩ := cellsFrom_has fd.scope.names (s.heap.objs.size + 1) [] (mem_of_lookup' q')
              have := x.cell y c h1
              rw [bindC_at _ _ hn1 hmem q'] at this
              exact ⟨c, v, h1, this, rv⟩
          · rw [List.getElem?_append_right (by simpa using Nat.not_lt.mp hlt), List.getElem?_replicate] at e2
            split at e2
            · cases e2; exact absurd rfl hp
            · cases e2
        loc := ⟨_, x.toInCall.ns⟩
        cel := fun y c e => ⟨_, x.cell y c e⟩
        apart := fun y z c e1 e2 => name_of_addr x.apart (mem_of_lookup e1) (mem_of_lookup e2)
        locC := fun y c e => Nat.ne_of_gt (hab y c e)
        locF := ⟨S.none hnone, S.notTab hnone, by simp⟩
        celF := fun y c e => by
          have hn : s.heap.get? c = none := get_ge (Nat.le_of_lt (hab y c e))
          exact ⟨S.none hn, S.notTab hn, by simp⟩ }
      have n₁ : Next B F s F s₁ := by rw [hs1] at hkk ⊢; exact Next.keeps S hkk
      have hA' : AOk n (A.deeper (callEnvC fd s.heap.objs.size a)) := ⟨hA.handled, by have := hA.depth; show A.depth + 1 + 8 * n < _; (first | lia | omega), by have := hA.units; show A.units + 3 + 100 * n < _; (first | lia | omega)⟩
      refine h _ _ F [] _ [] s₁ _ ⟨rfl, rfl⟩ hA' n₁.st hR Mu.none' eg _ _ fun v s₂ F₂ μ₂ n₂ r₂ => ?_
      obtain ⟨hfl, R₂, X₂⟩ := r₂
      have hown : ∀ b, Own (callEnvC fd s.heap.objs.size a) xs b → s.heap.get? b = none := by
        rintro b (rfl | ⟨y, _, e⟩)
        · exact hnone
        · exact get_ge (Nat.le_of_lt (hab y b e))
      obtain ⟨h2, t2, hs2⟩ := n₂.shape
      have N : Next B F s F₂ s₂ := ⟨by rw [hs2, hs1]; exact ⟨h2, t2, rfl⟩, n₂.ext, n₂.st, fun b o hb e => n₂.keep b o hb (fun q => by rw [hown b q] at e; cases e) (by simp) (n₁.keep b o hb e), fun b o e => by
        rcases n₂.new b o e with e | e | e
        · exact .inl e
        · exact .inr (n₁.gone e)
        · simp at e⟩
      cases fl with
      | ret q =>
        cases v <;> try exact hfl.elim
        cases hf; exact hQ _ s₂ F₂ N hfl
      | next =>
        cases v <;> try exact hfl.elim
        cases hf; exact hQ _ s₂ F₂ N .none
      | brk => cases hf
      | cont => cases hf
  · cases hf
theorem Rd.cellSet {F : Fz} {μ : Mus} {env : Env} {Γ : Cx} {h h' : Heap} {i : Nat} {x : Str} {c f : Addr} (R : Rd F μ xs gs env Γ h) (hx : xs[i]? = some (x, .own)) (hc : env.cells.lookup x = some c) (hc' : h'.IsCell c (some (.ref f)))
    (kk : ∀ a o, a ≠ c → h.get? a = some o → h'.get? a = some o) : Rd F μ xs gs env (Γ.set i (.fnv f)) h' where
  glob := R.glob
  bui := R.bui
  fn := R.fn
  knd := R.knd
  gl := R.gl
  names := R.names
  nodbg := R.nodbg
  apart := R.apart
  locC := R.locC
  locF := R.locF
  celF := R.celF
  len := by rw [List.length_set]; exact R.len
  loc := let ⟨m, hn⟩ := R.loc; ⟨m, hn.at' fun o e => kk _ _ (R.locC x c hc).symm e⟩
  cel := fun y d e => by
    by_cases hd : d = c
    · subst hd; exact ⟨_, hc'⟩
    · obtain ⟨v, o, ho, h2⟩ := R.cel y d e; exact ⟨v, o, kk _ _ hd ho, h2⟩
  has := fun j y q p' e1 e2 => by
    by_cases hij : i = j
    · subst hij
      rw [hx] at e1; cases e1
      have hlt : i < Γ.length := by rw [R.len]; exact (List.getElem?_eq_some_iff.mp hx).1
      rw [List.getElem?_set_self hlt] at e2; cases e2
      intro _
      rw [if_neg (by decide)]
      exact ⟨c, _, hc, hc', rfl⟩
    · rw [List.getElem?_set_ne hij] at e2
      have hne : y ≠ x := by rintro rfl; exact hij (names_inj R.names hx e1)
      refine (R.has j y q p' e1 e2).keeps F.le_refl ⟨[], (List.append_nil _).symm⟩ (fun _ m₀ hn₀ => ⟨m₀, hn₀.at' fun o e => kk _ _ (R.locC x c hc).symm e, rfl⟩) fun _ d o hd e => kk _ _ ?_ e
      rintro rfl; exact hne (R.apart _ _ _ hd hc)
/-- a def inside: the maker's table holds its code, or learns it -/
theorem X_def {A : Around} {env : Env} {F : Fz} {μ : Mus} {Γ : Cx} {σ : AH} {s : Shared} {i : Nat} {x : Str} {params : Arguments} {body : List Stmt} {scope : Scope} {pos : Pos} {c P : Addr} {clos : List (Str × Addr)} {Q : Flow → Shared → Prop} {E : Value → Shared → Prop}
    (ok : BaseOk B) (S : St B F s.heap) (R : Rd F μ xs gs env Γ s.heap) (X : Mu F μ σ s.heap) (hx : xs[i]? = some (x, .own)) (hcode : env.code = .ref c) (C : PySem.W.CodeHd B.h₁ c P) (hP : P ∈ tabs) (hl : (pos.line : Int) = tabLine P) (hco : pos.col = 4)
    (hq : qualnameIn env x x = tabQual P) (hcl : closureFor scope env = pure clos) (hd0 : params.defaults = []) (hk0 : params.kw_defaults = []) (ha : annTrees params none env = [])
    (hQ : ∀ f c' doc pm ctv s' F', SNext B (Own env xs) F μ s F' μ s' → Rd F' μ xs gs env (Γ.set i (.fnv f)) s'.heap → Mu F' μ σ s'.heap → F' f = some (PySem.W.fnMade x (tabQual P) params body scope clos doc pm c' ctv) →
      (∃ o fs t, F' c' = some o ∧ o.data = .fields fs ∧ fs[1]? = some (.str (tabQual P) t)) → Q .next s') :
    wpAny (model prg B.w) A (exec (.FunctionDef x params body [] none [] scope none x pos) env) Q E s := by
  obtain ⟨mg, G, bm, ob, b1, b2, b3, b4, b5, b6⟩ := ok.g
  have FP := (S.tab P hP).2
  have hgP : mainGlobals ≠ P := fun q => by
    obtain ⟨o, es, ep, e, hd, _⟩ := G
    have := S.base _ _ e
    rw [q, FP] at this; cases this
  have hbP : bm ≠ P := fun q => by
    have := S.base _ _ b3
    rw [q, FP] at this; cases this
  have hbG : bm ≠ mainGlobals := fun q => by
    obtain ⟨o, es, ep, e, hd, _⟩ := G
    rw [q, e] at b3; cases b3; rw [hd] at b6; cases b6
  have Gs : s.heap.Ns mainGlobals mg := G.at' fun o e => S.g e
  have Cs : PySem.W.CodeHd s.heap c P := C.keeps fun b o e => S.g e
  have Bs : s.heap.BuiltinsAt mg P := ⟨bm, ob, b1, b2, hbG, hbP, S.g b3, b4, b5, b6⟩
  -- what follows the making
  have fin : ∀ (F₁ : Fz) (s₁ : Shared) (f : Addr) (c' : Addr) (doc pm ctv : Value), Next B F s F₁ s₁ → F₁ f = some (PySem.W.fnMade x (tabQual P) params body scope clos doc pm c' ctv) →
      (∃ o fs t, F₁ c' = some o ∧ o.data = .fields fs ∧ fs[1]? = some (.str (tabQual P) t)) → wpAny (model prg B.w) A (storeName env x (.ref f)) (fun _ s'' => Q .next s'') E s₁ := by
    intro F₁ s₁ f c' doc pm ctv N hf hc'
    have R₁ := R.next N
    obtain ⟨K1, d, hd⟩ := R.knd x .own (List.mem_of_getElem? hx)
    obtain ⟨v₀, hv₀⟩ := R₁.cel x d hd
    refine wpAny_storeName_cell R.fn K1 hd hv₀ fun h' hc'' hs' => ?_
    have kk : ∀ a o, a ≠ d → s₁.heap.get? a = some o → h'.get? a = some o := fun a o ne e => (hs'.2 a ne).trans e
    have F3 := R₁.celF x d hd
    exact hQ f c' doc pm ctv _ F₁ (N.toS.trans (snext_change (tk := s₁.toks) N.st (.inl (.inr ⟨x, List.mem_of_getElem? hx, hd⟩)) F3.1 F3.2.1 kk (let ⟨o, e, _⟩ := hc''; ⟨o, e⟩))) (R₁.cellSet hx hd hc'' kk) ((X.next N).own F3.2.2 kk) hf hc'
  refine PySem.W.nestDef_K hd0 hk0 ha ?_
  rw [hq]
  obtain ⟨vs, hPv, hcase⟩ := (S.tab P hP).1
  rcases hcase with rfl | ⟨c', o, fs, t, rfl, e2, e3, e4⟩
  · refine PySem.W.makeFunction_K (ps := #[]) hcl R.glob Gs hcode Cs hPv trivial rfl hgP Bs fun c' ctv doc h' tk hxb hge hlt hrec htb => ?_
    obtain ⟨c₂, oc, fs, t, e1, hoc, hdc, hvc⟩ := hrec
    cases e1
    have hcn : s.heap.get? c' = none := get_ge hge
    have hfn : s.heap.get? h'.objs.size = none := get_ge (Nat.le_trans hge (Nat.le_of_lt hlt))
    have hne : c' ≠ h'.objs.size := Nat.ne_of_lt hlt
    have FC : F c' = none := S.none hcn
    have hcP : c' ≠ P := fun e => by rw [e, hPv] at hcn; cases hcn
    have kk : ∀ b o, b ≠ P → s.heap.get? b = some o → (h'.push (PySem.W.fnMade x (tabQual P) params body scope clos doc ((mg "__name__").getD .none) c' ctv)).get? b = some o := fun b o hb e => Heap.get?_push_of_some _ (hxb b o hb e)
    have FF : (F.put c' oc) h'.objs.size = none := by rw [Fz.put_ne hne.symm]; exact S.none hfn
    have le1 : F.le (F.put c' oc) := Fz.le_put FC
    have le2 : F.le ((F.put c' oc).put h'.objs.size (PySem.W.fnMade x (tabQual P) params body scope clos doc ((mg "__name__").getD .none) c' ctv)) := Fz.le_trans le1 (Fz.le_put FF)
    have hF2c : ((F.put c' oc).put h'.objs.size (PySem.W.fnMade x (tabQual P) params body scope clos doc ((mg "__name__").getD .none) c' ctv)) c' = some oc := by rw [Fz.put_ne hne]; exact Fz.put_self
    have sub : ∀ b o, ((F.put c' oc).put h'.objs.size (PySem.W.fnMade x (tabQual P) params body scope clos doc ((mg "__name__").getD .none) c' ctv)) b = some o →
        (h'.push (PySem.W.fnMade x (tabQual P) params body scope clos doc ((mg "__name__").getD .none) c' ctv)).get? b = some o := fun b o e => by
      rcases Fz.put_of e with ⟨rfl, rfl⟩ | e
      · exact Heap.get?_push_size _ rfl
      · rcases Fz.put_of e with ⟨rfl, rfl⟩ | e
        · exact Heap.get?_push_of_some _ hoc
        · exact kk b o (fun q => by rw [q, FP] at e; cases e) (S.sub _ _ e)
    refine fin _ { s with heap := h'.push (PySem.W.fnMade x (tabQual P) params body scope clos doc ((mg "__name__").getD .none) c' ctv), toks := tk } h'.objs.size c' doc _ ctv ⟨⟨_, tk, rfl⟩, le2, ⟨sub, fun b o e => le2 _ _ (S.base _ _ e), fun P' hP' => ⟨?_, ?_⟩⟩, fun b o hb e => kk b o (fun q => hb (q ▸ hP)) e, fun b o e => ?_⟩ Fz.put_self ⟨oc, fs, t, hF2c, hdc, hvc⟩
    · by_cases q : P' = P
      · subst q
        exact ⟨_, Heap.get?_push_of_some _ htb, .inr ⟨c', oc, fs, t, by rw [hl, hco]; rfl, hF2c, hdc, hvc⟩⟩
      · exact ((S.tab P' hP').1.keeps le2 fun o e => kk P' o q e)
    · have hn' := (S.tab P' hP')
      obtain ⟨vs', e', _⟩ := hn'.1
      rw [Fz.put_ne (fun q => by rw [q, hfn] at e'; cases e'), Fz.put_ne (fun q => by rw [q, hcn] at e'; cases e')]
      exact hn'.2
    · rcases Fz.put_of e with ⟨rfl, _⟩ | e
      · exact .inr hfn
      · rcases Fz.put_of e with ⟨rfl, _⟩ | e
        · exact .inr hcn
        · exact .inl e
  · refine PySem.W.makeFunction_hit (ps := #[rawInt (tabLine P), rawInt 4, .ref c']) (cv := .ref c') hcl R.glob Gs hcode Cs hPv trivial ?_ Bs fun ctv doc h' tk hk hsz => ?_
    · rw [← hl, show (4 : Int) = (pos.col : Int) by rw [hco]; rfl]
      exact codeAmong_snoc [] trivial rfl
    · have hfn : s.heap.get? h'.objs.size = none := get_ge hsz
      have N := Next.made (t := tk) (o := PySem.W.fnMade x (tabQual P) params body scope clos doc ((mg "__name__").getD .none) c' ctv) S (fun b o e => Heap.get?_push_of_some _ (hk b o e)) hfn (Heap.get?_push_size _ rfl)
      exact fin _ _ _ c' doc _ ctv N Fz.put_self ⟨o, fs, t, Fz.le_put (S.none hfn) _ _ e2, e3, e4⟩
end
end Mine
/-! part 19 -/
namespace Mine
open PySem PySem.Calls PyProof.Rows
noncomputable def p00 : Params := { strHash := fun _ => 0, shareClass := fun a => a, mergeTok := id, idOf := fun _ => 0, idOfShared := fun _ _ => 0, followText := fun _ => false, idOfImm := fun _ => 0 }
noncomputable def innerIn : List Stmt → List Stmt
  | [] => []
  | .FunctionDef _ _ b _ _ _ _ _ _ _ :: _ => b
  | _ :: r => innerIn r
noncomputable def innerOf (a : Addr) : List Stmt := match (hd.heap_39 p00).lookup a with
  | some ⟨_, _, .func fd, _⟩ => (match fd.body with | .stmts b => innerIn b | _ => [])
  | _ => []
noncomputable def xs_d : Names := [(Str.ofString "L", .loc), (Str.ofString "R", .loc), (Str.ofString "mid", .loc), (Str.ofString "shift", .loc), (Str.ofString "digits", .cap), (Str.ofString "inner", .cap), (Str.ofString "n", .cap)]
noncomputable def pre_d : List Stmt := (innerOf 80).take 3
noncomputable def g_d : {g : S // ∀ (B : Base) (n : Nat), ExecL B (n + 1) [(Str.ofString "L", .loc), (Str.ofString "R", .loc), (Str.ofString "mid", .loc), (Str.ofString "shift", .loc), (Str.ofString "digits", .cap), (Str.ofString "inner", .cap), (Str.ofString "n", .cap)] [] pre_d g} := ⟨_, fun B n => by
  show ExecL B (n + 1) [(Str.ofString "L", .loc), (Str.ofString "R", .loc), (Str.ofString "mid", .loc), (Str.ofString "shift", .loc), (Str.ofString "digits", .cap), (Str.ofString "inner", .cap), (Str.ofString "n", .cap)] [] ((innerOf 80).take 3) _
  exact (X_cons (X_if (T_cmp eq_ok (E_bin add_ok (E_name (i := 0) rfl) E_int) (E_name (i := 1) rfl)) (X_cons (X_ret (E_item (E_name (i := 4) rfl) (E_name (i := 0) rfl)))
    X_nil) X_nil)
    (X_cons (X_assign (i := 2) rfl (by decide) (E_bin shr_ok (E_bin add_ok (E_name (i := 0) rfl) (E_name (i := 1) rfl)) E_int))
    (X_cons (X_assign (i := 3) rfl (by decide) (E_bin mul_ok (E_bin sub_ok (E_name (i := 2) rfl) (E_name (i := 0) rfl)) (E_name (i := 6) rfl)))
    X_nil)))⟩
noncomputable def xs_i : Names := [(Str.ofString "x", .loc), (Str.ofString "L", .loc), (Str.ofString "R", .loc), (Str.ofString "mid", .loc), (Str.ofString "shift", .loc), (Str.ofString "upper", .loc), (Str.ofString "lower", .loc), (Str.ofString "a_digits", .cap), (Str.ofString "inner", .cap), (Str.ofString "n", .cap)]
noncomputable def pre_i : List Stmt := (innerOf 73).take 5
noncomputable def g_i : {g : S // ∀ (B : Base) (n : Nat), ExecL B (n + 1) [(Str.ofString "x", .loc), (Str.ofString "L", .loc), (Str.ofString "R", .loc), (Str.ofString "mid", .loc), (Str.ofString "shift", .loc), (Str.ofString "upper", .loc), (Str.ofString "lower", .loc), (Str.ofString "a_digits", .cap), (Str.ofString "inner", .cap), (Str.ofString "n", .cap)] [] pre_i g} := ⟨_, fun B n => by
  show ExecL B (n + 1) [(Str.ofString "x", .loc), (Str.ofString "L", .loc), (Str.ofString "R", .loc), (Str.ofString "mid", .loc), (Str.ofString "shift", .loc), (Str.ofString "upper", .loc), (Str.ofString "lower", .loc), (Str.ofString "a_digits", .cap), (Str.ofString "inner", .cap), (Str.ofString "n", .cap)] [] ((innerOf 73).take 5) _
  exact (X_cons (X_if (T_cmp eq_ok (E_bin add_ok (E_name (i := 1) rfl) E_int) (E_name (i := 2) rfl)) (X_cons (X_setitem (i := 7) rfl (E_name (i := 0) rfl) (E_name (i := 1) rfl))
    (X_cons X_retN
    X_nil)) X_nil)
    (X_cons (X_assign (i := 3) rfl (by decide) (E_bin shr_ok (E_bin add_ok (E_name (i := 1) rfl) (E_name (i := 2) rfl)) E_int))
    (X_cons (X_assign (i := 4) rfl (by decide) (E_bin mul_ok (E_bin sub_ok (E_name (i := 3) rfl) (E_name (i := 1) rfl)) (E_name (i := 9) rfl)))
    (X_cons (X_assign (i := 5) rfl (by decide) (E_bin shr_ok (E_name (i := 0) rfl) (E_name (i := 4) rfl)))
    (X_cons (X_assign (i := 6) rfl (by decide) (E_bin xor_ok (E_name (i := 0) rfl) (E_bin shl_ok (E_name (i := 5) rfl) (E_name (i := 4) rfl))))
    X_nil)))))⟩
end Mine
/-! part 20 -/
namespace Mine
open PySem PySem.Calls PyProof.Rows
/-- what the cells of a def inside hold -/
structure Clo (F : Fz) (μ : Mus) (h : Heap) (cl : List (Str × Addr)) (caps : List (Str × Sl)) (f : Addr) : Prop where
  at' : ∀ x p, (x, p) ∈ caps → ∃ c v, cl.lookup x = some c ∧ h.IsCell c (some v) ∧ SlRep F μ v p
  self : ∃ c, cl.lookup (Str.ofString "inner") = some c ∧ h.IsCell c (some (.ref f))
  cel : ∀ x c, cl.lookup x = some c → (∃ v, h.IsCell c v) ∧ Away F μ c
  inj : ∀ x y c, cl.lookup x = some c → cl.lookup y = some c → x = y
theorem Clo.step {B : Base} {Ow : Addr → Prop} {F F' : Fz} {μ μ' : Mus} {s s' : Shared} {cl : List (Str × Addr)} {caps : List (Str × Sl)} {f : Addr} (x : Clo F μ s.heap cl caps f) (N : SNext B Ow F μ s F' μ' s') (hOw : ∀ y c, cl.lookup y = some c → ¬ Ow c) : Clo F' μ' s'.heap cl caps f := by
  have kc : ∀ y c o, cl.lookup y = some c → s.heap.get? c = some o → s'.heap.get? c = some o := fun y c o e h => N.keep c o (x.cel y c e).2.2.1 (hOw y c e) (x.cel y c e).2.2.2 h
  refine ⟨fun y p hm => ?_, ?_, fun y c e => ?_, x.inj⟩
  · obtain ⟨c, v, h1, ⟨o, h2, h3⟩, h4⟩ := x.at' y p hm
    exact ⟨c, v, h1, ⟨o, kc y c o h1 h2, h3⟩, h4.mono N.ext N.mu⟩
  · obtain ⟨c, h1, o, h2, h3⟩ := x.self
    exact ⟨c, h1, o, kc _ c o h1 h2, h3⟩
  · obtain ⟨⟨v, o, h1, h2⟩, h3, h4, h5⟩ := x.cel y c e
    refine ⟨⟨v, o, kc y c o e h1, h2⟩, ?_, h4, fun hm => ?_⟩
    · cases q : F' c with
      | none => rfl
      | some o' =>
        rcases N.new c o' q with q | q | q
        · rw [h3] at q; cases q
        · rw [q] at h1; cases h1
        · exact absurd q h5
    · rcases N.newμ c hm with q | q
      · exact h5 q
      · rw [q] at h1; cases h1
theorem Clo.drop {F : Fz} {μ : Mus} {h : Heap} {cl : List (Str × Addr)} {caps : List (Str × Sl)} {f : Addr} (x : Clo F μ h cl caps f) (hv : ∀ x p, (x, p) ∈ caps → ∃ v, p = .val v) : Clo F [] h cl caps f :=
  ⟨fun y p hm => by
    obtain ⟨c, v, h1, h2, h4⟩ := x.at' y p hm
    obtain ⟨w, rfl⟩ := hv y p hm
    exact ⟨c, v, h1, h2, h4⟩, x.self, fun y c e => ⟨(x.cel y c e).1, (x.cel y c e).2.1, (x.cel y c e).2.2.1, by simp⟩, x.inj⟩
theorem Next.ofS {B : Base} {Ow : Addr → Prop} {F F₁ F₂ : Fz} {μ₂ : Mus} {s s₁ s₂ : Shared} (n₁ : Next B F s F₁ s₁) (n₂ : SNext B Ow F₁ [] s₁ F₂ μ₂ s₂) (hO : ∀ b, Ow b → s.heap.get? b = none) : Next B F s F₂ s₂ := by
  obtain ⟨h1, t1, rfl⟩ := n₁.shape
  obtain ⟨h2, t2, rfl⟩ := n₂.shape
  refine ⟨⟨h2, t2, rfl⟩, Fz.le_trans n₁.ext n₂.ext, n₂.st, fun b o hb e => n₂.keep b o hb (fun q => by rw [hO b q] at e; cases e) (by simp) (n₁.keep b o hb e), fun b o e => ?_⟩
  rcases n₂.new b o e with e | e | e
  · exact n₁.new b o e
  · exact .inr (n₁.gone e)
  · simp at e
section
variable {B : Base} {n : Nat} {xs : Names} {gs : List Str}
theorem execs_append (p q : List Stmt) (env : Env) : execs (p ++ q) env = (execs p env >>= fun fl => match fl with | .next => execs q env | f => pure f) := by
  induction p with
  | nil => exact (pure_bind _ _).symm
  | cons st rest ih =>
    show execs (st :: (rest ++ q)) env = _
    rw [execs_cons, execs_cons, bind_assoc]
    congr 1
    funext fl
    cases fl with
    | next => exact ih
    | _ => exact (pure_bind _ _).symm
/-- statements ahead of others -/
theorem run_pre {p q : List Stmt} {f : S} {env : Env} {A : Around} {F : Fz} {μ : Mus} {Γ : Cx} {σ : AH} {s : Shared} {r : Fl × Cx × AH} {Q : Flow → Shared → Prop} {E : Value → Shared → Prop} (h : ExecL B n xs gs p f) (hA : AOk n A) (S : St B F s.heap) (R : Rd F μ xs gs env Γ s.heap) (X : Mu F μ σ s.heap)
    (hf : f Γ σ = some r) (hn : ∀ s' F' μ', r.1 = .next → SNext B (Own env xs) F μ s F' μ' s' → Rd F' μ' xs gs env r.2.1 s'.heap → Mu F' μ' r.2.2 s'.heap → wpAny (model prg B.w) A (execs q env) Q E s')
    (hr : ∀ v p s' F' μ', r.1 = .ret p → SNext B (Own env xs) F μ s F' μ' s' → Rep F' v p → Mu F' μ' r.2.2 s'.heap → Q (.ret v) s') (hno : r.1 ≠ .brk ∧ r.1 ≠ .cont) : wpAny (model prg B.w) A (execs (p ++ q) env) Q E s := by
  rw [execs_append]
  refine wpAny_bind (h env A F μ Γ σ s r hA S R X hf _ _ fun v s' F' μ' N k => ?_)
  obtain ⟨k1, k2, k3⟩ := k
  obtain ⟨fl, Γ', σ'⟩ := r
  cases fl with
  | next => cases v <;> try exact k1.elim
            exact hn s' F' μ' rfl N k2 k3
  | ret p => cases v <;> try exact k1.elim
             exact wpAny_pure (hr _ p s' F' μ' rfl N k1 k3)
  | brk => exact absurd rfl hno.1
  | cont => exact absurd rfl hno.2
/-- the def inside is called by its name -/
theorem call_inner {es : List Expr} {pp pos : Pos} {env : Env} {A : Around} {F : Fz} {μ : Mus} {Γ : Cx} {σ : AH} {s : Shared} {fs : El} {ps : List V} {f : Addr} {o : Obj} {fd : FuncData} {Q : Value → Shared → Prop} {E : Value → Shared → Prop} (hA : AOk n A) (S : St B F s.heap)
    (R : Rd F μ xs gs env Γ s.heap) (X : Mu F μ σ s.heap) (K : env.kindOf (Str.ofString "inner") = some .cell ∨ env.kindOf (Str.ofString "inner") = some .free) (hc : ∃ c, env.cells.lookup (Str.ofString "inner") = some c ∧ s.heap.IsCell c (some (.ref f))) (ha : ArgsR B n xs gs es fs) (hF : F f = some o) (hd : o.data = .func fd) (e : fs Γ σ = some ps)
    (h : ∀ vals s' F', Next B F s F' s' → Reps F' vals ps → wpAny (model prg B.w) A (call (.ref f) vals []) Q E s') : wpAny (model prg B.w) A (eval (.Call (.Name (Str.ofString "inner") pp) es [] pos) env) Q E s := by
  obtain ⟨c, hc, hv⟩ := hc
  show wpAny (model prg B.w) A (do callWith pos (← eval (.Name (Str.ofString "inner") pp) env) [] (backTo pos (starEach es env)) (backToKw pos (keywordEach [] env))) Q E s
  have hld : wpAny (model prg B.w) A (loadName env (Str.ofString "inner")) (fun v s' => wpAny (model prg B.w) A (callWith pos v [] (backTo pos (starEach es env)) (backToKw pos (keywordEach [] env))) Q E s') E s := by
    have fin : wpAny (model prg B.w) A (callWith pos (.ref f) [] (backTo pos (starEach es env)) (backToKw pos (keywordEach [] env))) Q E s := by
      refine callWith_any (ha.plain env pos) ?_
      refine ha.runs pos env A F μ Γ σ s ps hA S R X e _ E fun vs s₁ F₁ n₁ r₁ => ?_
      exact keep_fz n₁.st (n₁.ext _ _ hF) hd fun k => ⟨rfl, h vs s₁ F₁ n₁ r₁⟩
    rcases K with K | K
    · exact wpAny_loadName_cell R.fn K hc hv fin
    · exact wpAny_loadName_free R.fn K hc hv fin
  exact wpAny_bind (wpAny_Name hld)
end
end Mine
/-! part 21 -/
namespace Mine
open PySem PySem.Calls PyProof.Rows
noncomputable def defIn : List Stmt → Option (Arguments × Scope)
  | [] => none
  | .FunctionDef _ p _ _ _ _ sc _ _ _ :: _ => some (p, sc)
  | _ :: r => defIn r
noncomputable def bodyOf (a : Addr) : List Stmt := match (hd.heap_39 p00).lookup a with
  | some ⟨_, _, .func fd, _⟩ => (match fd.body with | .stmts b => b | _ => [])
  | _ => []
noncomputable def innerPar (a : Addr) : Arguments := ((defIn (bodyOf a)).getD default).1
noncomputable def innerSc (a : Addr) : Scope := ((defIn (bodyOf a)).getD default).2
noncomputable def post_d : List Stmt := (innerOf 80).drop 3
noncomputable def post_i : List Stmt := (innerOf 73).drop 5
theorem body_d : innerOf 80 = pre_d ++ post_d := by rfl
theorem body_i : innerOf 73 = pre_i ++ post_i := by rfl
noncomputable abbrev innerObj (a : Addr) (P : Addr) (cl : List (Str × Addr)) (doc pm : Value) (c' : Addr) (ctv : Value) : Obj := PySem.W.fnMade (Str.ofString "inner") (tabQual P) (innerPar a) (innerOf a) (innerSc a) cl doc pm c' ctv
noncomputable def shlV : V → V → Option V := int2 fun a b => if 0 ≤ b ∧ b ≤ 1000 ∧ small a = true then some (.int (a * 2 ^ b.toNat)) else none
noncomputable def dG (ds : List V) (N : Int) (ps : List V) : Cx := ps.map .val ++ [.undef, .undef, .val (.list ds), .undef, .val (.int N)]
noncomputable def a2 (i j : Nat) : El := pcons (pv i) (pcons (pv j) fun _ _ => some [])
noncomputable def a3 (i j k : Nat) : El := pcons (pv i) (pcons (pv j) (pcons (pv k) fun _ _ => some []))
/-- what inner of _digits2int gives, within k levels -/
noncomputable def inD (ds : List V) (N : Int) : Nat → List V → Option V
  | 0, _ => none
  | k + 1, ps => if ps.length = 2 then (g_d.1 (dG ds N ps) []).bind fun r => match r.1 with
      | .ret v => some v
      | .next => (a2 2 1 r.2.1 r.2.2).bind fun p1 => (inD ds N k p1).bind fun h => (pv 3 r.2.1 r.2.2).bind fun sh => (shlV h sh).bind fun hs => (a2 0 2 r.2.1 r.2.2).bind fun p2 => (inD ds N k p2).bind fun l => addV hs l
      | _ => none
    else none
theorem nocell_d : ∀ x ∈ (innerSc 80).names, x.2 ≠ .cell := by decide +kernel
theorem inD_ok {B : Base} (hlim : B.h₁.NoLimit) {f c' : Addr} {cl : List (Str × Addr)} {doc pm ctv : Value} {ds : List V} {N : Int} : ∀ (k : Nat) A F s vals ps v, AOk (k + 12) A → St B F s.heap → F f = some (innerObj 80 75 cl doc pm c' ctv) →
    (∃ o fs t, F c' = some o ∧ o.data = .fields fs ∧ fs[1]? = some (.str (tabQual 75) t)) → Clo F [] s.heap cl [(Str.ofString "digits", .val (.list ds)), (Str.ofString "n", .val (.int N))] f → Reps F vals ps → inD ds N k ps = some v →
    Do B A F s (call (.ref f) vals []) (fun F' _ w => Rep F' w v)
  | 0, A, F, s, vals, ps, v, hA, S, hF, hc, C, r, e => by cases e
  | k + 1, A, F, s, vals, ps, v, hA, S, hF, hc, C, r, e => by
    intro Q E hQ
    unfold inD at e
    split at e
    · rename_i hlen
      obtain ⟨q, eq, e⟩ := Option.bind_eq_some_iff.mp e
      obtain ⟨oc, fs, t, hc1, hc2, hc3⟩ := hc
      have hcapL : ∀ x p, (x, p) ∈ [(Str.ofString "digits", Sl.val (.list ds)), (Str.ofString "n", .val (.int N))] → ∃ c v, cl.lookup x = some c ∧ s.heap.IsCell c (some v) ∧ SlRep F [] v p := C.at'
      refine clo_enter (names := []) (n := k + 12) (xs := xs_d) (gs := []) (np := 2) (ps := ps) (Γr := [.undef, .undef, .val (.list ds), .undef, .val (.int N)]) (σ := []) (μ := []) (body := pre_d ++ post_d) (by simpa [Nat.add_right_comm] using hA) hlim S Mu.none' hF rfl
        (congrArg FuncBody.stmts body_d) rfl rfl ⟨c', oc, fs, t, rfl, S.sub _ _ hc1, hc2, hc3⟩ rfl rfl rfl nocell_d (fun x kd hm => ?_) (by decide +kernel) (fun x kd hm => ?_) (fun x hx => by cases hx) hlen rfl ?_ (fun i x kd hi hx => ?_) r (fun i x kd p hx hp hne => ?_) C.cel C.inj
        (fun env s₁ hcells hL hno n₁ R₁ X₁ hA₁ => ?_)
      · simp only [xs_d, List.mem_cons, Prod.mk.injEq, List.not_mem_nil, or_false] at hm
        obtain ⟨cI, hI, _⟩ := C.self
        obtain ⟨cD, _, hD, _⟩ := C.at' (Str.ofString "digits") _ (.head _)
        obtain ⟨cN, _, hN, _⟩ := C.at' (Str.ofString "n") _ (.tail _ (.head _))
        rcases hm with ⟨rfl, rfl⟩ | ⟨rfl, rfl⟩ | ⟨rfl, rfl⟩ | ⟨rfl, rfl⟩ | ⟨rfl, rfl⟩ | ⟨rfl, rfl⟩ | ⟨rfl, rfl⟩
        · exact .inl ⟨rfl, by rfl⟩
        · exact .inl ⟨rfl, by rfl⟩
        · exact .inl ⟨rfl, by rfl⟩
        · exact .inl ⟨rfl, by rfl⟩
        · exact .inr ⟨rfl, by rfl, cD, hD⟩
        · exact .inr ⟨rfl, by rfl, cI, hI⟩
        · exact .inr ⟨rfl, by rfl, cN, hN⟩
      · simp only [xs_d, List.mem_cons, Prod.mk.injEq, List.not_mem_nil, or_false] at hm
        rcases hm with ⟨rfl, rfl⟩ | ⟨rfl, rfl⟩ | ⟨rfl, rfl⟩ | ⟨rfl, rfl⟩ | ⟨rfl, rfl⟩ | ⟨rfl, rfl⟩ | ⟨rfl, rfl⟩ <;> decide +kernel
      · have hv2 : vals.length = 2 := by rw [r.length]; exact hlen
        match vals, hv2 with
        | [a, b], _ => rfl
      · match i, hi, hx with
        | 0, _, hx => cases hx; rfl
        | 1, _, hx => cases hx; rfl
      · match i, hx, hp with
        | 0, hx, hp => cases hp; exact absurd rfl hne
        | 1, hx, hp => cases hp; exact absurd rfl hne
        | 2, hx, hp => cases hx; cases hp; exact ⟨rfl, C.at' _ _ (.head _)⟩
        | 3, hx, hp => cases hp; exact absurd rfl hne
        | 4, hx, hp => cases hx; cases hp; exact ⟨rfl, C.at' _ _ (.tail _ (.head _))⟩
      · have hOw : ∀ y c, cl.lookup y = some c → ¬ Own env xs_d c := fun y c e' ho => by
          rcases ho with rfl | ⟨x, hm, _⟩
          · obtain ⟨_, o', h1, _⟩ := (C.cel y _ e').1
            rw [hL] at h1; cases h1
          · exact hno x _ hm rfl
        have C₁ := C.step (n₁.toS (Ow := Own env xs_d)) hOw
        refine run_pre (g_d.2 B (k + 11)) hA₁ n₁.st R₁ X₁ eq (fun s₂ F₂ μ₂ hfl n₂ R₂ X₂ => ?_) (fun w p s₂ F₂ μ₂ hfl n₂ rp X₂ => ?_) ?_
        · rw [hfl] at e
          obtain ⟨p1, e1, e⟩ := Option.bind_eq_some_iff.mp e
          obtain ⟨h, e2, e⟩ := Option.bind_eq_some_iff.mp e
          obtain ⟨sh, e3, e⟩ := Option.bind_eq_some_iff.mp e
          obtain ⟨hs, e4, e⟩ := Option.bind_eq_some_iff.mp e
          obtain ⟨p2, e5, e⟩ := Option.bind_eq_some_iff.mp e
          obtain ⟨l, e6, e⟩ := Option.bind_eq_some_iff.mp e
          have C₂ := C₁.step n₂ hOw
          have hOn : ∀ b, Own env xs_d b → s.heap.get? b = none := fun b ho => by
            rcases ho with rfl | ⟨x, hm, _⟩
            · exact hL
            · exact absurd rfl (hno x _ hm)
          have N₂ := Next.ofS n₁ n₂ hOn
          have hv : ∀ x p, (x, p) ∈ [(Str.ofString "digits", Sl.val (.list ds)), (Str.ofString "n", .val (.int N))] → ∃ v, p = .val v := by
            intro x p hm
            simp only [List.mem_cons, Prod.mk.injEq, List.not_mem_nil, or_false] at hm
            rcases hm with ⟨_, rfl⟩ | ⟨_, rfl⟩ <;> exact ⟨_, rfl⟩
          have hF₂ := N₂.ext _ _ hF
          have hself : ∀ {F' : Fz} {s' : Shared}, Clo F' μ₂ s'.heap cl [(Str.ofString "digits", Sl.val (.list ds)), (Str.ofString "n", .val (.int N))] f → ∃ c, env.cells.lookup (Str.ofString "inner") = some c ∧ s'.heap.IsCell c (some (.ref f)) := fun C' => by
            obtain ⟨c, h1, h2⟩ := C'.self; exact ⟨c, by rw [hcells]; exact h1, h2⟩
          have hOf : ∀ y c, cl.lookup y = some c → ¬ (fun _ : Addr => False) c := fun _ _ _ h => h
          show wpAny _ _ (execs [.Return (some (.BinOp (.BinOp (.Call (.Name (Str.ofString "inner") _) [.Name (Str.ofString "mid") _, .Name (Str.ofString "R") _] [] _) .LShift (.Name (Str.ofString "shift") _) _) .Add
            (.Call (.Name (Str.ofString "inner") _) [.Name (Str.ofString "L") _, .Name (Str.ofString "mid") _] [] _) _)) _] env) _ _ _
          refine wpAny_execs_cons (wpAny_Return_some (wpAny_BinOp (wpAny_BinOp ?_)))
          have hin := (R₂.knd (Str.ofString "inner") .cap (List.mem_of_getElem? (i := 5) rfl)).1
          refine call_inner hA₁ n₂.st R₂ X₂ hin (hself C₂) (A_cons (E_name (i := 2) rfl) (A_cons (E_name (i := 1) rfl) A_nil)) hF₂ rfl e1 fun vals₁ s₃ F₃ n₃ r₃ => ?_
          have C₃ := C₂.step n₃.toS hOf
          refine inD_ok hlim k _ F₃ s₃ vals₁ p1 h hA₁ n₃.st (n₃.ext _ _ hF₂) ⟨oc, fs, t, n₃.ext _ _ (N₂.ext _ _ hc1), hc2, hc3⟩ (C₃.drop hv) r₃ e2 _ _ fun v₁ s₄ F₄ n₄ r₄ => ?_
          have C₄ := C₃.step n₄.toS hOf
          refine (E_name (i := 3) rfl : Evals B (k + 12) xs_d [] _ _) env _ F₄ μ₂ q.2.1 q.2.2 s₄ sh hA₁ n₄.st ((R₂.next n₃).next n₄) ((X₂.next n₃).next n₄) e3 _ _ fun v₂ s₅ F₅ n₅ r₅ => ?_
          have C₅ := C₄.step n₅.toS hOf
          refine shl_ok (n := k + 12) _ F₅ s₅ v₁ v₂ h sh hs hA₁ n₅.st (r₄.mono n₅.ext) r₅ e4 _ _ fun v₃ s₆ F₆ n₆ r₆ => ?_
          have C₆ := C₅.step n₆.toS hOf
          have n36 := ((n₃.trans n₄).trans n₅).trans n₆
          refine call_inner hA₁ n₆.st (R₂.next n36) (X₂.next n36) hin (hself C₆) (A_cons (E_name (i := 0) rfl) (A_cons (E_name (i := 2) rfl) A_nil)) (n36.ext _ _ hF₂) rfl e5 fun vals₂ s₇ F₇ n₇ r₇ => ?_
          have C₇ := C₆.step n₇.toS hOf
          have n37 := n36.trans n₇
          refine inD_ok hlim k _ F₇ s₇ vals₂ p2 l hA₁ n₇.st (n37.ext _ _ hF₂) ⟨oc, fs, t, n37.ext _ _ (N₂.ext _ _ hc1), hc2, hc3⟩ (C₇.drop hv) r₇ e6 _ _ fun v₄ s₈ F₈ n₈ r₈ => ?_
          refine add_ok (n := k + 12) _ F₈ s₈ v₃ v₄ hs l v hA₁ n₈.st (r₆.mono (n₇.trans n₈).ext) r₈ e _ _ fun v₅ s₉ F₉ n₉ r₉ => ?_
          exact hQ v₅ s₉ F₉ (N₂.trans ((n37.trans n₈).trans n₉)) r₉
        · rw [hfl] at e
          cases e
          have hOn : ∀ b, Own env xs_d b → s.heap.get? b = none := fun b ho => by
            rcases ho with rfl | ⟨x, hm, _⟩
            · exact hL
            · exact absurd rfl (hno x _ hm)
          exact hQ _ s₂ F₂ (Next.ofS n₁ n₂ hOn) rp
        · exact ⟨fun hh => (by rw [hh] at e; cases e), fun hh => (by rw [hh] at e; cases e)⟩
    · cases e
end Mine
/-! part 22 -/
namespace Mine
open PySem PySem.Calls PyProof.Rows
/-- a frame's cells, seen from the def inside -/
theorem Clo.of {F : Fz} {μ : Mus} {xs : Names} {gs : List Str} {env : Env} {Γ : Cx} {h : Heap} {scope : Scope} {cl : List (Str × Addr)} {caps : List (Str × Sl)} {f : Addr} (R : Rd F μ xs gs env Γ h) (c1 : ∀ x c, cl.lookup x = some c → env.cells.lookup x = some c)
    (c2 : ∀ x, (x, NameKind.free) ∈ scope.names → cl.lookup x = env.cells.lookup x) (hfree : ∀ x p, (x, p) ∈ caps → (x, NameKind.free) ∈ scope.names) (hs : (Str.ofString "inner", NameKind.free) ∈ scope.names)
    (hat : ∀ x p, (x, p) ∈ caps → p ≠ .undef ∧ ∃ i : Nat, xs[i]? = some (x, Kd.own) ∧ Γ[i]? = some p) (hself : ∃ i : Nat, xs[i]? = some (Str.ofString "inner", Kd.own) ∧ Γ[i]? = some (Sl.fnv f)) : Clo F μ h cl caps f where
  at' := fun x p hm => by
    obtain ⟨hne, i, e1, e2⟩ := hat x p hm
    have H := R.has i x .own p e1 e2 hne
    rw [if_neg (by decide)] at H
    obtain ⟨c, v, h1, h2, h3⟩ := H
    exact ⟨c, v, by rw [c2 x (hfree x p hm)]; exact h1, h2, h3⟩
  self := by
    obtain ⟨i, e1, e2⟩ := hself
    have H := R.has i _ .own _ e1 e2 (by simp)
    rw [if_neg (by decide)] at H
    obtain ⟨c, v, h1, h2, h3⟩ := H
    cases h3
    exact ⟨c, by rw [c2 _ hs]; exact h1, h2⟩
  cel := fun x c e => ⟨R.cel x c (c1 x c e), R.celF x c (c1 x c e)⟩
  inj := fun x y c e1 e2 => R.apart x y c (c1 x c e1) (c1 y c e2)
noncomputable def xs_D : Names := [(Str.ofString "digits", .own), (Str.ofString "n", .own), (Str.ofString "inner", .own)]
noncomputable def gs_D : List Str := [Str.ofString "len"]
theorem pv_some {i : Nat} {Γ : Cx} {σ : AH} {v : V} (h : pv i Γ σ = some v) : Γ[i]? = some (.val v) := by
  unfold pv at h
  split at h
  · rename_i w e
    cases h; exact e
  · cases h
theorem pl_some {f : E} {Γ : Cx} {σ : AH} {l : List V} (h : pl f Γ σ = some l) : f Γ σ = some (.list l) := by
  unfold pl at h
  split at h
  · rename_i w e
    cases h; exact e
  · cases h
noncomputable def pint (f : E) : Cx → AH → Option Int := fun Γ σ => match f Γ σ with | some (.int i) => some i | _ => none
theorem pint_some {f : E} {Γ : Cx} {σ : AH} {i : Int} (h : pint f Γ σ = some i) : f Γ σ = some (.int i) := by
  unfold pint at h
  split at h
  · rename_i w e
    cases h; exact e
  · cases h
noncomputable def fD : S := fun Γ σ => if Γ.length = 3 ∧ σ.length = 0 then (pl (pv 0) Γ σ).bind fun ds => (pint (pv 1) Γ σ).bind fun N => (if ds.isEmpty then some (.int 0) else inD ds N 8 [.int 0, .int ds.length]).map fun v => (.ret v, [.val (.list ds), .val (.int N), .undef], []) else none
theorem fD_some {Γ : Cx} {σ : AH} {r : Fl × Cx × AH} (h : fD Γ σ = some r) : ∃ ds N p, Γ = [.val (.list ds), .val (.int N), p] ∧ σ = [] ∧
    (if ds.isEmpty then some (.int 0) else inD ds N 8 [.int 0, .int ds.length]).map (fun v => (Fl.ret v, ([.val (.list ds), .val (.int N), .undef] : Cx), ([] : AH))) = some r := by
  unfold fD at h
  split at h
  · rename_i hl
    obtain ⟨h1, h2⟩ := hl
    obtain ⟨ds, e1, h⟩ := Option.bind_eq_some_iff.mp h
    obtain ⟨N, e2, h⟩ := Option.bind_eq_some_iff.mp h
    obtain ⟨a, b, c, rfl⟩ := len3 h1
    cases pv_some (pl_some e1)
    cases pv_some (pint_some e2)
    exact ⟨ds, N, c, rfl, List.length_eq_zero_iff.mp h2, h⟩
  · cases h
theorem exec_D {B : Base} (ok : BaseOk B) {fd : FuncData} (hcode : fd.code = .ref 79) (hqual : fd.qualname = Str.ofString "_digits2int") :
    ExecsIn (fun env => env.code = fd.code ∧ env.qual = fd.qualname ++ ".<locals>.") B 30 xs_D gs_D (bodyOf 80) fD := by
  intro env A F μ Γ σ s r ⟨hc, hq⟩ hA S R X hf Q E hQ
  obtain ⟨ds, N, p, rfl, rfl, hf⟩ := fD_some hf
  · obtain ⟨v, ev, rfl⟩ := Option.map_eq_some_iff.mp hf
    have hμ : μ = [] := by
      have := X.len
      exact List.length_eq_zero_iff.mp (by simpa using this)
    subst hμ
    have K0 := R.knd _ _ (List.mem_of_getElem? (l := xs_D) (i := 0) rfl)
    have K1 := R.knd _ _ (List.mem_of_getElem? (l := xs_D) (i := 1) rfl)
    have K2 := R.knd _ _ (List.mem_of_getElem? (l := xs_D) (i := 2) rfl)
    have hfr : ∀ x, (x, NameKind.free) ∈ (innerSc 80).names → x = Str.ofString "digits" ∨ x = Str.ofString "inner" ∨ x = Str.ofString "n" := by
      have : ∀ y ∈ (innerSc 80).names, y.2 = NameKind.free → y.1 = Str.ofString "digits" ∨ y.1 = Str.ofString "inner" ∨ y.1 = Str.ofString "n" := by decide +kernel
      exact fun x hm => this _ hm rfl
    obtain ⟨cl, e0, c1, c2⟩ := closureFor_ok (scope := innerSc 80) (env := env) fun x hx => by
      rcases hfr x hx with rfl | rfl | rfl
      · exact K0.2
      · exact K2.2
      · exact K1.2
    show wpAny _ _ (execs (.FunctionDef (Str.ofString "inner") (innerPar 80) (innerOf 80) [] none [] (innerSc 80) none (Str.ofString "inner") _ :: _) env) _ _ _
    refine wpAny_execs_cons (X_def (i := 2) (c := 79) (P := 75) ok S R X rfl (hc.trans hcode) (PySem.W.codeHd_of_K ok.frag rfl) (by decide) rfl rfl ?_ e0 rfl rfl rfl fun f c' doc pm ctv s₁ F₁ N₁ R₁ X₁ hF hc' => ?_)
    · unfold qualnameIn
      rw [K2.1, hq, hqual]
      rfl
    · have C := Clo.of (caps := [(Str.ofString "digits", .val (.list ds)), (Str.ofString "n", .val (.int N))]) R₁ c1 c2 (fun x p hm => by
          simp only [List.mem_cons, Prod.mk.injEq, List.not_mem_nil, or_false] at hm
          rcases hm with ⟨rfl, _⟩ | ⟨rfl, _⟩ <;> decide +kernel) (by decide +kernel) (fun x p hm => by
          simp only [List.mem_cons, Prod.mk.injEq, List.not_mem_nil, or_false] at hm
          rcases hm with ⟨rfl, rfl⟩ | ⟨rfl, rfl⟩
          · exact ⟨by simp, 0, rfl, rfl⟩
          · exact ⟨by simp, 1, rfl, rfl⟩) ⟨2, rfl, rfl⟩
      have R₁' := R₁.forget 2
      show wpAny _ _ (execs [.Return (some (.IfExp (.Name (Str.ofString "digits") _) (.Call (.Name (Str.ofString "inner") _) [.Constant (.int 0) _ _, .Call (.Name (Str.ofString "len") _) [.Name (Str.ofString "digits") _] [] _] [] _) (.Constant (.int 0) _ _) _)) _] env) _ _ _
      have hA' : AOk 30 A := hA
      refine wpAny_execs_cons (wpAny_Return_some (wpAny_IfExp ?_))
      refine (T_val (E_name (i := 0) rfl) : Tests B 30 xs_D gs_D _ _) env A F₁ [] _ [] s₁ (!ds.isEmpty) hA N₁.st R₁' X₁ rfl _ _ fun b s₂ F₂ n₂ e₂ => ?_
      subst e₂
      have fin : ∀ (w : Value) (s' : Shared) (F' : Fz), Next B F₁ s₁ F' s' → Rep F' w v → Q (.ret w) s' := fun w s' F' n rw => hQ _ s' F' [] (N₁.trans n.toS) ⟨rw, R₁'.next n, X₁.next n⟩
      cases hds : ds.isEmpty with
      | true =>
        rw [hds] at ev
        cases ev
        exact (E_int : Evals B 30 xs_D gs_D _ _) env A F₂ [] _ [] s₂ (.int 0) hA n₂.st (R₁'.next n₂) (X₁.next n₂) rfl _ _ fun w s₃ F₃ n₃ r₃ => fin w s₃ F₃ (n₂.trans n₃) r₃
      | false =>
        rw [hds] at ev
        have C₂ := C.step (n₂.toS (Ow := fun _ => False)) fun _ _ _ h => h
        have hself : ∃ c, env.cells.lookup (Str.ofString "inner") = some c ∧ s₂.heap.IsCell c (some (.ref f)) := by
          obtain ⟨c, h1, h2⟩ := C₂.self; exact ⟨c, c1 _ c h1, h2⟩
        refine call_inner hA n₂.st (R₁'.next n₂) (X₁.next n₂) (.inl K2.1) hself (A_cons E_int (A_cons (E_call (List.mem_of_getElem? (i := 0) rfl) (g_len ok) Keep.builtin len_ok (A_cons (E_name (i := 0) rfl) A_nil)) A_nil)) (n₂.ext _ _ hF) rfl (ps := [.int 0, .int ds.length]) rfl fun vals s₃ F₃ n₃ r₃ => ?_
        have C₃ := C₂.step (n₃.toS (Ow := fun _ => False)) fun _ _ _ h => h
        obtain ⟨oc, fs, t, h1, h2, h3⟩ := hc'
        exact inD_ok ok.lim 8 A F₃ s₃ vals _ v (hA.mono (by decide)) n₃.st ((n₂.trans n₃).ext _ _ hF) ⟨oc, fs, t, (n₂.trans n₃).ext _ _ h1, h2, h3⟩ C₃ r₃ ev _ _ fun w s₄ F₄ n₄ r₄ => fin w s₄ F₄ ((n₂.trans n₃).trans n₄) r₄
theorem d2i_ok {B : Base} (ok : BaseOk B) : FnOk B 31 (.ref 80) (pfn xs_D 2 fD) :=
  fn_okJ (np := 2) (gs := gs_D) (body := bodyOf 80) ok.lim (ok.frag 80 _ rfl) rfl rfl rfl rfl rfl (PySem.W.codeRec_of ok.frag rfl) (fscope_of (by decide +kernel)) (by decide) (vals2 fun _ _ => rfl) (exec_D ok rfl rfl)
end Mine
/-! part 23 -/
namespace Mine
open PySem PySem.Calls PyProof.Rows
noncomputable def xs_I : Names := [(Str.ofString "a", .loc), (Str.ofString "n", .own), (Str.ofString "a_digits", .own), (Str.ofString "inner", .own)]
noncomputable def gs_I : List Str := [Str.ofString "len"]
noncomputable def int_1 : List Stmt := (bodyOf 73).take 1
noncomputable def g_I : {g : S // ∀ (B : Base) (n : Nat), ExecL B (n + 1) [(Str.ofString "a", .loc), (Str.ofString "n", .own), (Str.ofString "a_digits", .own), (Str.ofString "inner", .own)] [Str.ofString "len"] int_1 g} := ⟨_, fun B n => by
  show ExecL B (n + 1) [(Str.ofString "a", .loc), (Str.ofString "n", .own), (Str.ofString "a_digits", .own), (Str.ofString "inner", .own)] [Str.ofString "len"] ((bodyOf 73).take 1) _
  exact (X_cons (X_mut (i := 2) rfl (by decide) (FL_mul (N_fresh (FL_disp (A_cons E_int A_nil))) (E_bin fdiv_ok (E_bin sub_ok (E_bin add_ok (E_meth PySem.F.plainAttrs_int PySem.F.slot_int_bit_length PySem.F.type_int_bit_length bits_ok (E_name (i := 0) rfl) A_nil) (E_name (i := 1) rfl)) E_int) (E_name (i := 1) rfl))))
    X_nil)⟩
end Mine
/-! part 24 -/
namespace Mine
open PySem PySem.Calls PyProof.Rows
section
variable {B : Base} {n : Nat} {xs : Names} {gs : List Str}
/-- a frame seen through what another one does -/
theorem Rd.far {Ow : Addr → Prop} {F F' : Fz} {μ : Mus} {env : Env} {Γ : Cx} {s s' : Shared} (R : Rd F μ xs gs env Γ s.heap) (N : SNext B Ow F μ s F' μ s') (hL : ¬ Ow env.locals) (hC : ∀ x c, env.cells.lookup x = some c → ¬ Ow c) : Rd F' μ xs gs env Γ s'.heap := by
  have aw : ∀ a, Away F μ a → (∃ o, s.heap.get? a = some o) → Away F' μ a := fun a h ht => ⟨by
    cases q : F' a with
    | none => rfl
    | some o =>
      rcases N.new a o q with e | e | e
      · rw [h.1] at e; cases e
      · obtain ⟨o', z⟩ := ht; rw [e] at z; cases z
      · exact absurd e h.2.2, h.2.1, h.2.2⟩
  have kL : ∀ o, s.heap.get? env.locals = some o → s'.heap.get? env.locals = some o := fun o e => N.keep _ o R.locF.2.1 hL R.locF.2.2 e
  have kC : ∀ x c o, env.cells.lookup x = some c → s.heap.get? c = some o → s'.heap.get? c = some o := fun x c o hc e => N.keep _ o (R.celF x c hc).2.1 (hC x c hc) (R.celF x c hc).2.2 e
  exact {
    glob := R.glob, bui := R.bui, fn := R.fn, len := R.len, knd := R.knd, gl := R.gl, names := R.names, nodbg := R.nodbg, apart := R.apart, locC := R.locC
    has := fun i x k p e1 e2 => (R.has i x k p e1 e2).keeps N.ext ⟨[], (List.append_nil _).symm⟩ (fun _ m hn => ⟨m, hn.at' fun o e => kL o e, rfl⟩) fun _ c o hc e => kC x c o hc e
    loc := let ⟨m, hn⟩ := R.loc; ⟨m, hn.at' fun o e => kL o e⟩
    cel := fun x c e => let ⟨v, o, ho, hd⟩ := R.cel x c e; ⟨v, o, kC x c o e ho, hd⟩
    locF := aw _ R.locF (let ⟨m, o, _, _, e, _⟩ := R.loc; ⟨o, e⟩)
    celF := fun x c e => aw _ (R.celF x c e) (let ⟨v, o, ho, _⟩ := R.cel x c e; ⟨o, ho⟩) }
theorem SNext.leave {Ow Ow' : Addr → Prop} {F F₁ F₂ : Fz} {μ μ₂ : Mus} {s s₁ s₂ : Shared} (n₁ : Next B F s F₁ s₁) (n₂ : SNext B Ow F₁ μ s₁ F₂ μ₂ s₂) (hO : ∀ b, Ow b → s.heap.get? b = none) : SNext B Ow' F μ s F₂ μ₂ s₂ := by
  obtain ⟨h1, t1, rfl⟩ := n₁.shape
  obtain ⟨h2, t2, rfl⟩ := n₂.shape
  refine ⟨⟨h2, t2, rfl⟩, Fz.le_trans n₁.ext n₂.ext, n₂.st, n₂.mu, fun b o hb _ hm e => n₂.keep b o hb (fun q => by rw [hO b q] at e; cases e) hm (n₁.keep b o hb e), fun b o e => ?_, fun a h => (n₂.newμ a h).imp id n₁.gone, fun b o e => ?_⟩
  · rcases n₂.new b o e with e | e | e
    · exact (n₁.new b o e).imp id .inl
    · exact .inr (.inl (n₁.gone e))
    · exact .inr (.inr e)
  · obtain ⟨o', e'⟩ := n₁.there e
    exact n₂.there b o' e'
theorem Mu.one {F : Fz} {μ : Mus} {l : List V} {h : Heap} (X : Mu F μ [.list l] h) : ∃ la, μ = [[la]] := by
  have := X.len
  match μ, this with
  | [fp], _ =>
    obtain ⟨a, vs, k, e, _⟩ := X.at' 0 fp _ rfl rfl
    exact ⟨a, by rw [e]⟩
end
noncomputable def iG (N : Int) (ps : List V) : Cx := ps.map .val ++ [.undef, .undef, .undef, .undef, .ref 0, .undef, .val (.int N)]
/-- what inner of _int2digits leaves, within k levels -/
noncomputable def inI (N : Int) : Nat → List V → List V → Option (List V)
  | 0, _, _ => none
  | k + 1, ps, l => if ps.length = 3 then (g_i.1 (iG N ps) [.list l]).bind fun r => match r.1, r.2.2 with
      | .ret _, [.list l'] => some l'
      | .next, [.list l'] => (a3 6 1 3 r.2.1 [.list l']).bind fun p1 => (inI N k p1 l').bind fun l2 => (a3 5 3 2 r.2.1 [.list l2]).bind fun p2 => inI N k p2 l2
      | _, _ => none
    else none
theorem nocell_i : ∀ x ∈ (innerSc 73).names, x.2 ≠ .cell := by decide +kernel
theorem inI_ok {B : Base} (hlim : B.h₁.NoLimit) {f c' la : Addr} {cl : List (Str × Addr)} {doc pm ctv : Value} {N : Int} : ∀ (k : Nat) (A : Around) (F : Fz) (s : Shared) (vals : List Value) (ps l l' : List V), AOk (k + 12) A → St B F s.heap → F f = some (innerObj 73 68 cl doc pm c' ctv) →
    (∃ o fs t, F c' = some o ∧ o.data = .fields fs ∧ fs[1]? = some (.str (tabQual 68) t)) → Mu F [[la]] [.list l] s.heap → Clo F [[la]] s.heap cl [(Str.ofString "a_digits", .ref 0), (Str.ofString "n", .val (.int N))] f → Reps F vals ps → inI N k ps l = some l' →
    ∀ (Q : Value → Shared → Prop) (E : Value → Shared → Prop), (∀ s' F' w, SNext B (fun _ => False) F [[la]] s F' [[la]] s' → Mu F' [[la]] [.list l'] s'.heap → Q w s') → wpAny (model prg B.w) A (call (.ref f) vals []) Q E s
  | 0, A, F, s, vals, ps, l, l', hA, S, hF, hc, X, C, r, e => by cases e
  | k + 1, A, F, s, vals, ps, l, l', hA, S, hF, hc, X, C, r, e => by
    intro Q E hQ
    unfold inI at e
    split at e
    · rename_i hlen
      obtain ⟨q, eq, e⟩ := Option.bind_eq_some_iff.mp e
      obtain ⟨oc, fs, t, hc1, hc2, hc3⟩ := hc
      refine clo_enter (names := []) (n := k + 12) (xs := xs_i) (gs := []) (np := 3) (ps := ps) (Γr := [.undef, .undef, .undef, .undef, .ref 0, .undef, .val (.int N)]) (σ := [.list l]) (μ := [[la]]) (body := pre_i ++ post_i) (by simpa [Nat.add_right_comm] using hA) hlim S X hF rfl
        (congrArg FuncBody.stmts body_i) rfl rfl ⟨c', oc, fs, t, rfl, S.sub _ _ hc1, hc2, hc3⟩ rfl rfl rfl nocell_i (fun x kd hm => ?_) (by decide +kernel) (fun x kd hm => ?_) (fun x hx => by cases hx) hlen rfl ?_ (fun i x kd hi hx => ?_) r (fun i x kd p hx hp hne => ?_) C.cel C.inj
        (fun env s₁ hcells hL hno n₁ R₁ X₁ hA₁ => ?_)
      · simp only [xs_i, List.mem_cons, Prod.mk.injEq, List.not_mem_nil, or_false] at hm
        obtain ⟨cI, hI, _⟩ := C.self
        obtain ⟨cD, _, hD, _⟩ := C.at' (Str.ofString "a_digits") _ (.head _)
        obtain ⟨cN, _, hN, _⟩ := C.at' (Str.ofString "n") _ (.tail _ (.head _))
        rcases hm with ⟨rfl, rfl⟩ | ⟨rfl, rfl⟩ | ⟨rfl, rfl⟩ | ⟨rfl, rfl⟩ | ⟨rfl, rfl⟩ | ⟨rfl, rfl⟩ | ⟨rfl, rfl⟩ | ⟨rfl, rfl⟩ | ⟨rfl, rfl⟩ | ⟨rfl, rfl⟩
        · exact .inl ⟨rfl, by rfl⟩
        · exact .inl ⟨rfl, by rfl⟩
        · exact .inl ⟨rfl, by rfl⟩
        · exact .inl ⟨rfl, by rfl⟩
        · exact .inl ⟨rfl, by rfl⟩
        · exact .inl ⟨rfl, by rfl⟩
        · exact .inl ⟨rfl, by rfl⟩
        · exact .inr ⟨rfl, by rfl, cD, hD⟩
        · exact .inr ⟨rfl, by rfl, cI, hI⟩
        · exact .inr ⟨rfl, by rfl, cN, hN⟩
      · simp only [xs_i, List.mem_cons, Prod.mk.injEq, List.not_mem_nil, or_false] at hm
        rcases hm with ⟨rfl, rfl⟩ | ⟨rfl, rfl⟩ | ⟨rfl, rfl⟩ | ⟨rfl, rfl⟩ | ⟨rfl, rfl⟩ | ⟨rfl, rfl⟩ | ⟨rfl, rfl⟩ | ⟨rfl, rfl⟩ | ⟨rfl, rfl⟩ | ⟨rfl, rfl⟩ <;> decide +kernel
      · have hv2 : vals.length = 3 := by rw [r.length]; exact hlen
        match vals, hv2 with
        | [a, b, c], _ => rfl
      · match i, hi, hx with
        | 0, _, hx => cases hx; rfl
        | 1, _, hx => cases hx; rfl
        | 2, _, hx => cases hx; rfl
      · match i, hx, hp with
        | 0, hx, hp => cases hp; exact absurd rfl hne
        | 1, hx, hp => cases hp; exact absurd rfl hne
        | 2, hx, hp => cases hp; exact absurd rfl hne
        | 3, hx, hp => cases hp; exact absurd rfl hne
        | 4, hx, hp => cases hx; cases hp; exact ⟨rfl, C.at' _ _ (.head _)⟩
        | 5, hx, hp => cases hp; exact absurd rfl hne
        | 6, hx, hp => cases hx; cases hp; exact ⟨rfl, C.at' _ _ (.tail _ (.head _))⟩
      · have hOw : ∀ y c, cl.lookup y = some c → ¬ Own env xs_i c := fun y c e' ho => by
          rcases ho with rfl | ⟨x, hm, _⟩
          · obtain ⟨_, o', h1, _⟩ := (C.cel y _ e').1
            rw [hL] at h1; cases h1
          · exact hno x _ hm rfl
        have hOn : ∀ b, Own env xs_i b → s.heap.get? b = none := fun b ho => by
          rcases ho with rfl | ⟨x, hm, _⟩
          · exact hL
          · exact absurd rfl (hno x _ hm)
        have C₁ := C.step (n₁.toS (Ow := Own env xs_i)) hOw
        refine run_pre (g_i.2 B (k + 11)) hA₁ n₁.st R₁ X₁ eq (fun s₂ F₂ μ₂ hfl n₂ R₂ X₂ => ?_) (fun w p s₂ F₂ μ₂ hfl n₂ rp X₂ => ?_) ?_
        · split at e
          · rename_i h1 h2; rw [hfl] at h1; cases h1
          · rename_i l₂ h1 h2
            rw [h2] at X₂
            obtain ⟨la', hμ⟩ := X₂.one
            obtain ⟨ν, hν⟩ := n₂.mu
            have hν2 : μ₂ = [[la]] := by
              rw [hμ] at hν
              have : ν = [] := by
                have h9 := congrArg List.length hν
                simp at h9
                exact h9
              rw [hμ, hν, this]; rfl
            subst hν2
            obtain ⟨p1, e1, e⟩ := Option.bind_eq_some_iff.mp e
            obtain ⟨l3, e2, e⟩ := Option.bind_eq_some_iff.mp e
            obtain ⟨p2, e3, e⟩ := Option.bind_eq_some_iff.mp e
            have C₂ := C₁.step n₂ hOw
            have hself : ∀ {F' : Fz} {s' : Shared}, Clo F' [[la]] s'.heap cl [(Str.ofString "a_digits", Sl.ref 0), (Str.ofString "n", .val (.int N))] f → ∃ c, env.cells.lookup (Str.ofString "inner") = some c ∧ s'.heap.IsCell c (some (.ref f)) := fun C' => by
              obtain ⟨c, h1, h2⟩ := C'.self; exact ⟨c, by rw [hcells]; exact h1, h2⟩
            have hOf : ∀ y c, cl.lookup y = some c → ¬ (fun _ : Addr => False) c := fun _ _ _ h => h
            have hin := (R₂.knd (Str.ofString "inner") .cap (List.mem_of_getElem? (i := 8) rfl)).1
            have hF₂ := n₂.ext _ _ (n₁.ext _ _ hF)
            have hc₂ := n₂.ext _ _ (n₁.ext _ _ hc1)
            have hint : interactive env = false := by unfold interactive; rw [R₂.fn]; rfl
            show wpAny _ _ (execs [.Expr (.Call (.Name (Str.ofString "inner") _) [.Name (Str.ofString "lower") _, .Name (Str.ofString "L") _, .Name (Str.ofString "mid") _] [] _) _,
              .Expr (.Call (.Name (Str.ofString "inner") _) [.Name (Str.ofString "upper") _, .Name (Str.ofString "mid") _, .Name (Str.ofString "R") _] [] _) _] env) _ _ _
            refine wpAny_execs_cons (wpAny_Expr_any ?_ hint rfl)
            refine call_inner hA₁ n₂.st R₂ X₂ hin (hself C₂) (A_cons (E_name (i := 6) rfl) (A_cons (E_name (i := 1) rfl) (A_cons (E_name (i := 3) rfl) A_nil))) hF₂ rfl e1 fun vals₁ s₃ F₃ n₃ r₃ => ?_
            have C₃ := C₂.step (n₃.toS (Ow := fun _ => False)) hOf
            refine inI_ok hlim k _ F₃ s₃ vals₁ p1 l₂ l3 hA₁ n₃.st (n₃.ext _ _ hF₂) ⟨oc, fs, t, n₃.ext _ _ hc₂, hc2, hc3⟩ (X₂.next n₃) C₃ r₃ e2 _ _ fun s₄ F₄ w n₄ X₄ => ?_
            have C₄ := C₃.step n₄ hOf
            have R₄ := (R₂.next n₃).far n₄ (fun h => h) (fun _ _ _ h => h)
            refine wpAny_execs_cons (wpAny_Expr_any ?_ hint rfl)
            refine call_inner hA₁ n₄.st R₄ X₄ hin (hself C₄) (A_cons (E_name (i := 5) rfl) (A_cons (E_name (i := 3) rfl) (A_cons (E_name (i := 2) rfl) A_nil))) (n₄.ext _ _ (n₃.ext _ _ hF₂)) rfl e3 fun vals₂ s₅ F₅ n₅ r₅ => ?_
            have C₅ := C₄.step (n₅.toS (Ow := fun _ => False)) hOf
            have hx5 : ∀ a o, F₂ a = some o → F₅ a = some o := fun a o e => n₅.ext _ _ (n₄.ext _ _ (n₃.ext _ _ e))
            refine inI_ok hlim k _ F₅ s₅ vals₂ p2 l3 l' hA₁ n₅.st (hx5 _ _ hF₂) ⟨oc, fs, t, hx5 _ _ hc₂, hc2, hc3⟩ (X₄.next n₅) C₅ r₅ e _ _ fun s₆ F₆ w' n₆ X₆ => ?_
            refine wpAny_execs_nil (hQ s₆ F₆ _ ?_ X₆)
            exact (((SNext.leave (Ow' := fun _ => False) n₁ n₂ hOn).trans n₃.toS).trans n₄).trans (n₅.toS.trans n₆)
          · cases e
        · split at e
          · rename_i l₂ h1 h2
            cases e
            rw [h2] at X₂
            obtain ⟨la', hμ⟩ := X₂.one
            obtain ⟨ν, hν⟩ := n₂.mu
            have hν2 : μ₂ = [[la]] := by
              rw [hμ] at hν
              have : ν = [] := by
                have h9 := congrArg List.length hν
                simp at h9
                exact h9
              rw [hμ, hν, this]; rfl
            subst hν2
            exact hQ s₂ F₂ _ (SNext.leave n₁ n₂ hOn) X₂
          · rename_i h1 h2; rw [hfl] at h1; cases h1
          · cases e
        · refine ⟨fun hh => ?_, fun hh => ?_⟩ <;> (rw [hh] at e; simp at e)
    · cases e
end Mine
/-! part 25 -/
namespace Mine
open PySem PySem.Calls PyProof.Rows
theorem bodyI_split : bodyOf 73 = int_1 ++ (bodyOf 73).drop 1 := by rfl
noncomputable def isU : Sl → Bool
  | .undef => true
  | _ => false
theorem isU_some {x : Sl} (h : isU x = true) : x = .undef := by
  cases x with
  | undef => rfl
  | _ => cases h
theorem xmut_shape {i : Nat} {f : El} {Γ : Cx} : xseq (xmut i f) xnext Γ [] = (f Γ []).map fun l => (.next, Γ.set i (.ref 0), [.list l]) := by
  unfold xseq xmut
  cases f Γ [] <;> rfl
theorem gI_shape : ∃ f : Cx → Option (List V), ∀ Γ, g_I.1 Γ [] = (f Γ).map fun l => (.next, Γ.set 2 (.ref 0), [.list l]) := by
  unfold g_I
  dsimp only
  exact ⟨_, fun Γ => xmut_shape⟩
noncomputable def fI : S := fun Γ σ => if Γ.length = 4 ∧ σ.length = 0 ∧ (Γ.drop 2).all isU = true then (pint (pv 0) Γ σ).bind fun a => (pint (pv 1) Γ σ).bind fun N => (g_I.1 Γ []).bind fun r => (pref 2 r.2.1 r.2.2).bind fun l0 =>
    (if a = 0 then some l0 else inI N 8 [.int a, .int 0, .int l0.length] l0).map fun l' => (.ret (.list l'), [.val (.int a), .val (.int N), .val (.list l'), .undef], [.dead])
  else none
theorem fI_some {Γ : Cx} {σ : AH} {r : Fl × Cx × AH} (h : fI Γ σ = some r) : ∃ a N l0, Γ = [.val (.int a), .val (.int N), .undef, .undef] ∧ σ = [] ∧ g_I.1 [.val (.int a), .val (.int N), .undef, .undef] [] = some (.next, [.val (.int a), .val (.int N), .ref 0, .undef], [.list l0]) ∧
    (if a = 0 then some l0 else inI N 8 [.int a, .int 0, .int l0.length] l0).map (fun l' => (Fl.ret (V.list l'), ([.val (.int a), .val (.int N), .val (.list l'), .undef] : Cx), ([.dead] : AH))) = some r := by
  unfold fI at h
  split at h
  · rename_i hl
    obtain ⟨h1, h2, h3⟩ := hl
    obtain ⟨a, e1, h⟩ := Option.bind_eq_some_iff.mp h
    obtain ⟨N, e2, h⟩ := Option.bind_eq_some_iff.mp h
    obtain ⟨q, e3, h⟩ := Option.bind_eq_some_iff.mp h
    obtain ⟨l0, e4, h⟩ := Option.bind_eq_some_iff.mp h
    obtain ⟨x, y, z, w, rfl⟩ := len4 h1
    cases pv_some (pint_some e1)
    cases pv_some (pint_some e2)
    have h4 : (isU z && (isU w && true)) = true := h3
    rw [Bool.and_true, Bool.and_eq_true] at h4
    cases isU_some h4.1
    cases isU_some h4.2
    obtain ⟨f, hf⟩ := gI_shape
    have e5 := e3
    rw [hf] at e5
    obtain ⟨l, _, rfl⟩ := Option.map_eq_some_iff.mp e5
    cases (show some l = some l0 from e4)
    exact ⟨a, N, l0, rfl, List.length_eq_zero_iff.mp h2, e3, h⟩
  · cases h
theorem exec_I {B : Base} (ok : BaseOk B) {fd : FuncData} (hcode : fd.code = .ref 72) (hqual : fd.qualname = Str.ofString "_int2digits") :
    ExecsIn (fun env => env.code = fd.code ∧ env.qual = fd.qualname ++ ".<locals>.") B 30 xs_I gs_I (bodyOf 73) fI := by
  intro env A F μ Γ σ s r ⟨hc, hq⟩ hA S R X hf Q E hQ
  obtain ⟨a, N, l0, rfl, rfl, eg, hf⟩ := fI_some hf
  · · obtain ⟨l', ev, rfl⟩ := Option.map_eq_some_iff.mp hf
      have hμ : μ = [] := by
        have := X.len
        exact List.length_eq_zero_iff.mp (by simpa using this)
      subst hμ
      rw [bodyI_split]
      refine run_pre (g_I.2 B 29) hA S R X eg (fun s₁ F₁ μ₁ hfl n₁ R₁ X₁ => ?_) (fun w p s₂ F₂ μ₂ hfl n₂ rp X₂ => by cases hfl) ⟨by simp, by simp⟩
      obtain ⟨la, rfl⟩ := X₁.one
      have K1 := R.knd _ _ (List.mem_of_getElem? (l := xs_I) (i := 1) rfl)
      have K2 := R.knd _ _ (List.mem_of_getElem? (l := xs_I) (i := 2) rfl)
      have K3 := R.knd _ _ (List.mem_of_getElem? (l := xs_I) (i := 3) rfl)
      have hfr : ∀ x, (x, NameKind.free) ∈ (innerSc 73).names → x = Str.ofString "a_digits" ∨ x = Str.ofString "inner" ∨ x = Str.ofString "n" := by
        have : ∀ y ∈ (innerSc 73).names, y.2 = NameKind.free → y.1 = Str.ofString "a_digits" ∨ y.1 = Str.ofString "inner" ∨ y.1 = Str.ofString "n" := by decide +kernel
        exact fun x hm => this _ hm rfl
      obtain ⟨cl, e0, c1, c2⟩ := closureFor_ok (scope := innerSc 73) (env := env) fun x hx => by
        rcases hfr x hx with rfl | rfl | rfl
        · exact K2.2
        · exact K3.2
        · exact K1.2
      show wpAny _ _ (execs (.FunctionDef (Str.ofString "inner") (innerPar 73) (innerOf 73) [] none [] (innerSc 73) none (Str.ofString "inner") _ :: _) env) _ _ _
      refine wpAny_execs_cons (X_def (i := 3) (c := 72) (P := 68) ok n₁.st R₁ X₁ rfl (hc.trans hcode) (PySem.W.codeHd_of_K ok.frag rfl) (by decide) rfl rfl ?_ e0 rfl rfl rfl fun f c' doc pm ctv s₂ F₂ N₂ R₂ X₂ hF hc' => ?_)
      · unfold qualnameIn
        rw [K3.1, hq, hqual]
        rfl
      · have C := Clo.of (caps := [(Str.ofString "a_digits", .ref 0), (Str.ofString "n", .val (.int N))]) R₂ c1 c2 (fun x p hm => by
            simp only [List.mem_cons, Prod.mk.injEq, List.not_mem_nil, or_false] at hm
            rcases hm with ⟨rfl, _⟩ | ⟨rfl, _⟩ <;> decide +kernel) (by decide +kernel) (fun x p hm => by
            simp only [List.mem_cons, Prod.mk.injEq, List.not_mem_nil, or_false] at hm
            rcases hm with ⟨rfl, rfl⟩ | ⟨rfl, rfl⟩
            · exact ⟨by simp, 2, rfl, rfl⟩
            · exact ⟨by simp, 1, rfl, rfl⟩) ⟨3, rfl, rfl⟩
        have R₂' := R₂.forget 3
        have hint : interactive env = false := by unfold interactive; rw [R.fn]; rfl
        -- the last statement
        have tail : ∀ s' F', SNext B (Own env xs_I) F [] s F' [[la]] s' → Rd F' [[la]] xs_I gs_I env [.val (.int a), .val (.int N), .ref 0, .undef] s'.heap → Mu F' [[la]] [.list l'] s'.heap →
            wpAny (model prg B.w) A (execs [.Return (some (.Name (Str.ofString "a_digits") ⟨96, 11, 96, 19⟩)) ⟨96, 4, 96, 19⟩] env) Q E s' := fun s' F' N' R' X' => by
          refine (X_cons (X_frz (i := 2) rfl (X_ret (E_name (i := 2) rfl))) X_nil : ExecL B 30 xs_I gs_I _ _) env A F' [[la]] _ [.list l'] s' _ hA N'.st R' X' rfl _ _ fun v s'' F'' μ'' n'' k => ?_
          exact hQ v s'' F'' μ'' (N'.trans n'') k
        show wpAny _ _ (execs (.If (.Name (Str.ofString "a") _) [.Expr (.Call (.Name (Str.ofString "inner") _) [.Name (Str.ofString "a") _, .Constant (.int 0) _ _, .Call (.Name (Str.ofString "len") _) [.Name (Str.ofString "a_digits") _] [] _] [] _) _] [] _ :: _) env) _ _ _
        refine wpAny_execs_cons (wpAny_If ?_)
        have n₁₂ : SNext B (Own env xs_I) F [] s F₂ [[la]] s₂ := n₁.trans N₂
        refine (T_val (E_name (i := 0) rfl) : Tests B 30 xs_I gs_I _ _) env A F₂ [[la]] _ [.list l0] s₂ (a != 0) hA N₂.st R₂' X₂ rfl _ _ fun b s₃ F₃ n₃ e₃ => ?_
        subst e₃
        by_cases ha : a = 0
        · rw [if_pos ha] at ev
          cases ev
          rw [show (a != 0) = false by simp [ha]]
          exact wpAny_execs_nil (tail s₃ F₃ (n₁₂.trans n₃.toS) (R₂'.next n₃) (X₂.next n₃))
        · rw [if_neg ha] at ev
          rw [show (a != 0) = true by simp [ha]]
          have C₃ := C.step (n₃.toS (Ow := fun _ => False)) fun _ _ _ h => h
          have hself : ∃ c, env.cells.lookup (Str.ofString "inner") = some c ∧ s₃.heap.IsCell c (some (.ref f)) := by
            obtain ⟨c, h1, h2⟩ := C₃.self; exact ⟨c, c1 _ c h1, h2⟩
          refine wpAny_execs_cons (wpAny_Expr_any ?_ hint rfl)
          refine call_inner hA n₃.st (R₂'.next n₃) (X₂.next n₃) (.inl K3.1) hself (A_cons (E_name (i := 0) rfl) (A_cons E_int (A_cons (E_call1 (List.mem_of_getElem? (i := 0) rfl) (g_len ok) Keep.builtin len_now (N_ref (i := 2) rfl)) A_nil))) (n₃.ext _ _ hF) rfl (ps := [.int a, .int 0, .int l0.length]) rfl fun vals s₄ F₄ n₄ r₄ => ?_
          have C₄ := C₃.step (n₄.toS (Ow := fun _ => False)) fun _ _ _ h => h
          obtain ⟨oc, fs, t, h1, h2, h3⟩ := hc'
          refine inI_ok ok.lim 8 A F₄ s₄ vals _ l0 l' (hA.mono (by decide)) n₄.st ((n₃.trans n₄).ext _ _ hF) ⟨oc, fs, t, (n₃.trans n₄).ext _ _ h1, h2, h3⟩ ((X₂.next n₃).next n₄) C₄ r₄ ev _ _ fun s₅ F₅ w n₅ X₅ => ?_
          have R₅ := ((R₂'.next n₃).next n₄).far n₅ (fun h => h) (fun _ _ _ h => h)
          exact wpAny_execs_nil (tail s₅ F₅ (((n₁₂.trans n₃.toS).trans n₄.toS).trans (n₅.wider fun _ h => h.elim)) R₅ X₅)
theorem i2d_ok {B : Base} (ok : BaseOk B) : FnOk B 31 (.ref 73) (pfn xs_I 2 fI) :=
  fn_okJ (np := 2) (gs := gs_I) (body := bodyOf 73) ok.lim (ok.frag 73 _ rfl) rfl rfl rfl rfl rfl (PySem.W.codeRec_of ok.frag rfl) (fscope_of (by decide +kernel)) (by decide) (vals2 fun _ _ => rfl) (exec_I ok rfl rfl)
end Mine
/-! part 26 -/
namespace Mine
open PySem PySem.Calls PyProof.Rows
noncomputable def xs_divmod_pos : Names := [(Str.ofString "a", .loc), (Str.ofString "b", .loc), (Str.ofString "n", .loc), (Str.ofString "a_digits", .loc), (Str.ofString "r", .loc), (Str.ofString "q_digits", .loc), (Str.ofString "a_digit", .loc), (Str.ofString "q_digit", .loc), (Str.ofString "q", .loc)]
noncomputable def gs_divmod_pos : List Str := [Str.ofString "_int2digits", Str.ofString "reversed", Str.ofString "_div2n1n", Str.ofString "_digits2int"]
noncomputable def w_divmod_pos : {f : List V → Option V // ∀ B, BaseOk B → FnOk B (40 + 1) (.ref 87) f} := ⟨pfn [(Str.ofString "a", .loc), (Str.ofString "b", .loc), (Str.ofString "n", .loc), (Str.ofString "a_digits", .loc), (Str.ofString "r", .loc), (Str.ofString "q_digits", .loc), (Str.ofString "a_digit", .loc), (Str.ofString "q_digit", .loc), (Str.ofString "q", .loc)] 2 _, fun B ok =>
  fn_ok (np := 2) (gs := [Str.ofString "_int2digits", Str.ofString "reversed", Str.ofString "_div2n1n", Str.ofString "_digits2int"]) ok.lim (ok.frag 87 _ rfl) rfl rfl rfl rfl rfl (PySem.W.codeRec_of ok.frag rfl) (fscope_of (by decide +kernel)) (by decide) (vals2 fun _ _ => rfl)
    (X_cons (X_assign (i := 2) rfl (by decide) (E_meth PySem.F.plainAttrs_int PySem.F.slot_int_bit_length PySem.F.type_int_bit_length bits_ok (E_name (i := 1) rfl) A_nil))
    (X_cons (X_assign (i := 3) rfl (by decide) (E_call (List.mem_of_getElem? (i := 0) rfl) (g__int2digits ok) (k__int2digits ok) ((i2d_ok ok).up (by decide)) (A_cons (E_name (i := 0) rfl) (A_cons (E_name (i := 2) rfl) A_nil))))
    (X_cons (X_assign (i := 4) rfl (by decide) E_int)
    (X_cons (X_mut (i := 5) rfl (by decide) (FL_disp A_nil))
    (X_cons (X_for (i := 6) rfl (by decide) (It_rev (List.mem_of_getElem? (i := 1) rfl) (g_reversed ok) (E_name (i := 3) rfl)) (X_cons (X_tup2 (i := 7) (j := 4) rfl (by decide) rfl (by decide) (E_call (List.mem_of_getElem? (i := 2) rfl) (g__div2n1n ok) (k__div2n1n ok) ((w_div2n1n.2 _ ok).up (by decide)) (A_cons (E_bin add_ok (E_bin shl_ok (E_name (i := 4) rfl) (E_name (i := 2) rfl)) (E_name (i := 6) rfl)) (A_cons (E_name (i := 1) rfl) (A_cons (E_name (i := 2) rfl) A_nil)))))
    (X_cons (X_append (i := 5) rfl (E_name (i := 7) rfl))
    X_nil)))
    (X_cons (X_reverse (i := 5) rfl)
    (X_cons (X_frz (i := 5) rfl (X_assign (i := 8) rfl (by decide) (E_call (List.mem_of_getElem? (i := 3) rfl) (g__digits2int ok) (k__digits2int ok) ((d2i_ok ok).up (by decide)) (A_cons (E_name (i := 5) rfl) (A_cons (E_name (i := 2) rfl) A_nil)))))
    (X_cons (X_ret (E_tup (A_cons (E_name (i := 8) rfl) (A_cons (E_name (i := 4) rfl) A_nil))))
    X_nil))))))))⟩
noncomputable def xs_divA : Names := [(Str.ofString "a", .loc), (Str.ofString "b", .loc), (Str.ofString "q", .loc), (Str.ofString "r", .loc)]
noncomputable def gs_divA : List Str := [Str.ofString "ZeroDivisionError", Str.ofString "int_divmod", Str.ofString "_divmod_pos"]
noncomputable def w_divA : {f : List V → Option V // ∀ B, BaseOk B → FnOk B (45 + 1) (.ref 94) f} := ⟨pfn [(Str.ofString "a", .loc), (Str.ofString "b", .loc), (Str.ofString "q", .loc), (Str.ofString "r", .loc)] 2 _, fun B ok =>
  fn_ok (np := 2) (gs := [Str.ofString "ZeroDivisionError", Str.ofString "int_divmod", Str.ofString "_divmod_pos"]) ok.lim (ok.frag 94 _ rfl) rfl rfl rfl rfl rfl (PySem.W.codeRec_of ok.frag rfl) (fscope_of (by decide +kernel)) (by decide) (vals2 fun _ _ => rfl)
    (X_cons (X_if (T_cmp eq_ok (E_name (i := 1) rfl) E_int) (X_cons X_no
    X_nil) (X_cons (X_if (T_cmp lt_ok (E_name (i := 1) rfl) E_int) X_no (X_cons (X_if (T_cmp lt_ok (E_name (i := 0) rfl) E_int) X_no (X_cons (X_ret (E_call (List.mem_of_getElem? (i := 2) rfl) (g__divmod_pos ok) (k__divmod_pos ok) ((w_divmod_pos.2 _ ok).up (by decide)) (A_cons (E_name (i := 0) rfl) (A_cons (E_name (i := 1) rfl) A_nil))))
    X_nil))
    X_nil))
    X_nil))
    X_nil)⟩
noncomputable def xs_divB : Names := [(Str.ofString "a", .loc), (Str.ofString "b", .loc), (Str.ofString "q", .loc), (Str.ofString "r", .loc)]
noncomputable def gs_divB : List Str := [Str.ofString "ZeroDivisionError", Str.ofString "int_divmod", Str.ofString "_divmod_pos"]
noncomputable def w_divB : {f : List V → Option V // ∀ B, BaseOk B → FnOk B (50 + 1) (.ref 94) f} := ⟨pfn [(Str.ofString "a", .loc), (Str.ofString "b", .loc), (Str.ofString "q", .loc), (Str.ofString "r", .loc)] 2 _, fun B ok =>
  fn_ok (np := 2) (gs := [Str.ofString "ZeroDivisionError", Str.ofString "int_divmod", Str.ofString "_divmod_pos"]) ok.lim (ok.frag 94 _ rfl) rfl rfl rfl rfl rfl (PySem.W.codeRec_of ok.frag rfl) (fscope_of (by decide +kernel)) (by decide) (vals2 fun _ _ => rfl)
    (X_cons (X_if (T_cmp eq_ok (E_name (i := 1) rfl) E_int) (X_cons X_no
    X_nil) (X_cons (X_if (T_cmp lt_ok (E_name (i := 1) rfl) E_int) X_no (X_cons (X_if (T_cmp lt_ok (E_name (i := 0) rfl) E_int) (X_cons (X_tup2 (i := 2) (j := 3) rfl (by decide) rfl (by decide) (E_call (List.mem_of_getElem? (i := 1) rfl) (g_int_divmod ok) (k_int_divmod ok) ((w_divA.2 _ ok).up (by decide)) (A_cons (E_un inv_ok (E_name (i := 0) rfl)) (A_cons (E_name (i := 1) rfl) A_nil))))
    (X_cons (X_ret (E_tup (A_cons (E_un inv_ok (E_name (i := 2) rfl)) (A_cons (E_bin add_ok (E_name (i := 1) rfl) (E_un inv_ok (E_name (i := 3) rfl))) A_nil))))
    X_nil)) (X_cons (X_ret (E_call (List.mem_of_getElem? (i := 2) rfl) (g__divmod_pos ok) (k__divmod_pos ok) ((w_divmod_pos.2 _ ok).up (by decide)) (A_cons (E_name (i := 0) rfl) (A_cons (E_name (i := 1) rfl) A_nil))))
    X_nil))
    X_nil))
    X_nil))
    X_nil)⟩
end Mine
/-! part 27 -/
namespace Mine
open PySem PySem.Calls PyProof.Rows
noncomputable def code1 : List Nat := [14, 4, 0, 1, 1, 6, 1, 16, 46, 1]
noncomputable def code2 : List Nat := [14, 9, 4, 1, 2, 16, 10, 16, 13, 0, 7, 7, 16, 13, 16, 10, 15, 18, 5, 16, 10, 15, 13, 11, 16, 13, 5, 5, 0, 16, 10, 1, 15, 2, 0, 1]
/-- the machine, till it answers -/
noncomputable def drive : Nat → Sre.M → Option Sre.M
  | 0, _ => none
  | k + 1, m => let m' := m.runFor 4; if m'.outcome.isSome then some m' else drive k m'
noncomputable def ofM (m : Sre.M) : Option (Option (Nat × Nat)) := match m.outcome with
  | some .matched => some (some (m.start, m.handed))
  | some .failed => some none
  | _ => none
/-- one search -/
noncomputable def findP (code text : List Nat) (start : Nat) (must : Bool) : Option (Option (Nat × Nat)) :=
  (drive 400 (Sre.forSearch code.toArray text.toArray 0 start text.length must)).bind ofM
noncomputable def cutT (text : List Nat) (a b : Nat) : List Nat := (text.toArray.extract a b).toList
noncomputable def subP (code rep text : List Nat) : Nat → Nat → Bool → List (List Nat) → Option (List (List Nat))
  | 0, _, _, _ => none
  | k + 1, at', must, acc => (findP code text at' must).bind fun r => match r with
    | some (b, e) => subP code rep text k e (e == b) ((if at' < b then acc ++ [cutT text at' b] else acc) ++ [rep])
    | none => some (if at' < text.length then acc ++ [cutT text at' text.length] else acc)
noncomputable def subT (code rep text : List Nat) : Option (List Nat) := (subP code rep text 40 0 false []).map List.flatten
noncomputable def row (n : Nat) (e : List Nat) : List Nat := List.replicate n 46 ++ e
end Mine
/-! part 28 -/
namespace Mine
open PySem PySem.Calls PyProof.Rows
open PySem.Builtin.Re
theorem pa_pat : PlainAttrs "re.Pattern" :=
  ⟨⟨"object.__getattribute__", by rw [typeLookup_type, builtinLookup_eq_fast]; kernel_rfl, by decide +kernel⟩, by rw [typeLookup_type, builtinLookup_eq_fast]; kernel_rfl⟩
theorem slot_pat_sub : Slot "re.Pattern" (Str.ofString "sub") "re.Pattern.sub" :=
  .of (owner := "re.Pattern") (n := "sub") (by rw [typeLookup_type, builtinLookup_eq_fast]; kernel_rfl) (by decide +kernel) (by decide +kernel) (by decide +kernel)
    (by first | exact .inl (by decide +kernel) | exact .inr (by decide +kernel)) (by rw [isSubtype_type]; kernel_rfl)
theorem type_pat_sub : typeOf (.builtin "re.Pattern.sub") = pure (.type "method_descriptor") := by show builtinType _ = _; rw [builtinType_eq_fast]; kernel_rfl
theorem entry_pat_sub : entryFor table "re.Pattern.sub" = some Builtin.«re.Pattern.sub» := entryFor_of_tree (by kernel_rfl)
theorem plain_pat_loop : plainId "re.Pattern.sub.loop" = true := by decide +kernel
theorem entry_pat_loop : entryFor table "re.Pattern.sub.loop" = some Builtin.«re.Pattern.sub.loop» := entryFor_of_fast (by kernel_rfl)
theorem owner_pat : Manifest.owners.lookup (String.ofList ['n', 'r', 'e', 't', 't', 'a', 'P', '.', 'e', 'r'].reverse) = some Manifest.sig_re_Pattern := by kernel_rfl
theorem args_pat_sub (a b c : Value) : argsOk "re.Pattern.sub" ⟨[a, b, c], []⟩ := by
  unfold argsOk; rw [signature?_of (id := "re.Pattern.sub") (n := ['b', 'u', 's']) (o := ['n', 'r', 'e', 't', 't', 'a', 'P', '.', 'e', 'r']) (by kernel_rfl) owner_pat]; kernel_rfl
section
variable {M : Model} {A : Around} {E : Value → Shared → Prop} {s : Shared}
theorem reNamed_two (id f : String) (a b : Value) : reNamed id f ["repl", "string", "count"] 2 [a, b] [] = pure [some a, some b, none] := by rfl
noncomputable def target (P : Addr) (x : Str) (t : Tok) (items : Array Value) : ReTarget := { pattern := .ref P, string := .str x t, code := (items.map reRawOf).map (·.toNat), text := x.cps, kind := 0, groups := 0, pos := 0, lim := x.cps.size }
theorem whole_ok {P C : Addr} {x : Str} {t u2 u6 : Tok} {o o2 : Obj} {fs items : Array Value} {n : Nat} {Q : ReTarget → Shared → Prop} (hP : s.heap.get? P = some o) (hd : o.data = .fields fs) (h2 : fs.getD 2 .none = .int 0 u2) (h5 : fs.getD 5 .none = .ref C) (h6 : fs.getD 6 .none = .int 0 u6)
    (hC : s.heap.get? C = some o2) (hd2 : o2.data = .seq items n) (h : Q (target P x t items) s) : wpAny M A (reWholeTarget (.ref P) (.str x t)) Q E s := by
  unfold reWholeTarget fieldsOf
  refine wpAny_bind (wpAny_bind (wpAny_load hP ?_))
  rw [hd]
  refine wpAny_pure ?_
  unfold reTextOf
  refine wpAny_bind (wpAny_bind (m := asStr? _) (wpAny_pure (wpAny_pure ?_)))
  simp only [h6, reRawNat]
  refine wpAny_ite_split (fun hab => absurd hab (by decide)) fun _ => ?_
  refine wpAny_ite_split (fun hab => absurd hab (by decide)) fun _ => ?_
  unfold reNoCollectionInside
  refine wpAny_bind (wpAny_ite_split (fun hab => absurd hab (by decide)) fun _ => wpAny_pure ?_)
  unfold reRawItems
  rw [h5]
  refine wpAny_bind (wpAny_bind (wpAny_seqItems hC hd2 (wpAny_pure (wpAny_pure ?_))))
  rw [h2]
  exact h
theorem drive_ok : ∀ (k j : Nat) (m m' : Sre.M) (s : Shared) (Q : Sre.M → Shared → Prop), drive k m = some m' → k ≤ j → Q m' s → wpAny M A (reDrive j m) Q E s
  | 0, _, _, _, _, _, h, _, _ => by cases h
  | k + 1, 0, _, _, _, _, _, h, _ => absurd h (Nat.not_succ_le_zero _)
  | k + 1, j + 1, m, m', s, Q, h, hj, hq => by
    unfold reDrive
    unfold drive at h
    show wpAny M A (if (m.runFor 4).outcome.isSome then pure (m.runFor 4) else do rule "sre.turn"; reDrive j (m.runFor 4)) Q E s
    by_cases hc : (m.runFor 4).outcome.isSome = true
    · simp only [hc, if_true] at h ⊢
      cases h
      exact wpAny_pure hq
    · simp only [hc] at h ⊢
      exact wpAny_bind (wpAny_rule (drive_ok k j _ m' s Q h (Nat.le_of_succ_le_succ hj) hq))
theorem wpAny_forIn_idle {α : Type} {f : α → PUnit → Sem (ForInStep PUnit)} (hf : ∀ a u (s : Shared) (Q : ForInStep PUnit → Shared → Prop), Q (.yield ⟨⟩) s → wpAny M A (f a u) Q E s) : ∀ (l : List α) (s : Shared) (Q : PUnit → Shared → Prop), Q ⟨⟩ s → wpAny M A (forIn l ⟨⟩ f) Q E s
  | [], s, Q, h => by rw [List.forIn_nil]; exact wpAny_pure h
  | a :: l, s, Q, h => by
    rw [List.forIn_cons]
    exact wpAny_bind (hf a _ s _ (wpAny_forIn_idle hf l s Q h))
theorem runToEnd_ok {m m' : Sre.M} {Q : Option Sre.M → Shared → Prop} (hd : drive 400 m = some m') (h : match m'.outcome with | some .matched => Q (some m') s | some .failed => Q none s | _ => False) : wpAny M A (reRunToEnd m) Q E s := by
  unfold reRunToEnd
  refine wpAny_bind (drive_ok 400 (2 ^ 64) m m' s _ hd (by decide) ?_)
  refine wpAny_bind (wpAny_forIn_idle (fun i u s Q hq => ?_) _ s _ ?_)
  · refine wpAny_ite_split (fun _ => ?_) fun _ => ?_
    · exact wpAny_bind (wpAny_rule (wpAny_pure hq))
    · exact wpAny_pure hq
  · cases ho : m'.outcome with
    | none => rw [ho] at h; exact h.elim
    | some oc =>
      rw [ho] at h
      cases oc with
      | matched => exact wpAny_pure h
      | failed => exact wpAny_pure h
      | stuck w => exact h.elim
theorem found_ok {P : Addr} {x : Str} {t : Tok} {items : Array Value} {code text : List Nat} {at' : Nat} {must : Bool} {r : Option (Nat × Nat)} {Q : Option Sre.M → Shared → Prop} (hx : x = strOf text) (hc : (items.map reRawOf).map (·.toNat) = code.toArray) (hf : findP code text at' must = some r)
    (h : match r with | some (b, e) => ∀ m : Sre.M, m.start = b → m.handed = e → Q (some m) s | none => Q none s) : wpAny M A (reNextFound (target P x t items) at' must) Q E s := by
  subst hx
  obtain ⟨m', h1, h2⟩ := Option.bind_eq_some_iff.mp hf
  unfold reNextFound target
  simp only [hc]
  have e : (strOf text).cps.size = text.length := by simp [strOf]
  rw [e]
  refine runToEnd_ok (m' := m') h1 ?_
  unfold ofM at h2
  cases ho : m'.outcome with
  | none => rw [ho] at h2; cases h2
  | some oc =>
    rw [ho] at h2
    cases oc with
    | matched => cases h2; exact h m' rfl rfl
    | failed => cases h2; exact h
    | stuck w => cases h2
end
end Mine
/-! part 29 -/
namespace Mine
open PySem PySem.Calls PyProof.Rows
open PySem.Builtin.Re
section
variable {M : Model} {A : Around} {E : Value → Shared → Prop} {s : Shared}
theorem push_ok {D : Addr} {items : Array Value} {m : Nat} {v : Value} {Q : Unit → Shared → Prop} (hD : s.heap.get? D = some ⟨.type "list", none, .seq items m, #[]⟩) (hsz : items.size ≤ sizeLine)
    (h : ∀ h' m', (∀ b o, b ≠ D → s.heap.get? b = some o → h'.get? b = some o) → h'.get? D = some ⟨.type "list", none, .seq (items.push v) m', #[]⟩ → Q () { s with heap := h' }) : wpAny M A (updateSeq D (·.push v)) Q E s := by
  refine wpAny_updateSeq hD rfl (h _ (m + 1) (fun b o hb e => ?_) ?_)
  · exact (Heap.get?_update_other _ _ (Ne.symm hb)).trans e
  · rw [Heap.get?_update_self _ hD (by rw [Obj.mapSeq_push_plain]; rfl), Obj.mapSeq_push_plain]
theorem slice_ok {text : List Nat} {a b : Nat} {Q : Value → Shared → Prop} (hsz : text.length ≤ lim) (h : Q (.str (strOf (cutT text a b)) s.toks) { s with toks := s.toks + 1 }) : wpAny M A (reSlice (strOf text).cps 0 a b) Q E s := by
  unfold reSlice
  have e : (⟨(strOf text).cps.extract a b⟩ : Str) = strOf (cutT text a b) := by unfold strOf cutT; simp
  show wpAny M A (mkStr ⟨(strOf text).cps.extract a b⟩) Q E s
  rw [e]
  refine wpAny_mkStr h ?_
  have : (cutT text a b).length ≤ text.length := by unfold cutT; simp; omega
  show (strOf _).length ≤ _
  rw [len_strOf]
  exact lim_size (Nat.le_trans this hsz)
theorem join_post {ns : List (List Nat)} {l : List (Str × Tok)} {Q : Value → Shared → Prop} (h3 : l.map (·.1) = ns.map strOf) (hok : okS ns.flatten = true) (hQ : ∀ t k, Q (.str (strOf ns.flatten) t) { s with toks := k }) : (joinMade (strOf []) l).post Q s := by
  have hj : (l = [] ∨ ∃ a b r, l = a :: b :: r) → joinMade (strOf []) l = .str (strOf ns.flatten) := by
    intro hh
    have : joinMade (strOf []) l = .str (Builtin.Str.glued (strOf []) (l.map (·.1))) := by
      rcases hh with rfl | ⟨a, b, r, rfl⟩ <;> rfl
    rw [this, h3, glued_nil]
  have fin : (Made.str (strOf ns.flatten)).post Q s := ⟨lim_size (by have := (okS_iff.mp hok).1; simpa [strOf, Str.length] using this), hQ _ _⟩
  match l, hj, h3 with
  | [], hj, _ => rw [hj (.inl rfl)]; exact fin
  | [p], _, h3 =>
    cases ns with
    | nil => simp at h3
    | cons x r => cases r with
      | cons y r => simp at h3
      | nil =>
        have : p.1 = strOf x := by simpa using h3
        show Q (.str p.1 p.2) s
        rw [this]
        have e9 : [x].flatten = x := by simp
        rw [e9] at hQ
        exact hQ _ s.toks
  | a :: b :: r, hj, _ => rw [hj (.inr ⟨a, b, r, rfl⟩)]; exact fin
end
theorem subP_len {code rep text : List Nat} : ∀ (k at' : Nat) (must : Bool) (acc pieces : List (List Nat)), subP code rep text k at' must acc = some pieces → acc.length ≤ pieces.length
  | 0, _, _, _, _, h => by cases h
  | k + 1, at', must, acc, pieces, h => by
    unfold subP at h
    obtain ⟨r, e, h⟩ := Option.bind_eq_some_iff.mp h
    cases r with
    | none =>
      cases h
      split <;> simp
    | some p =>
      have := subP_len k _ _ _ _ h
      refine Nat.le_trans ?_ this
      split <;> simp <;> omega
theorem loop_ok {w : World} {P C D : Addr} {code rep text : List Nat} {t u u2 u6 : Tok} {o o2 : Obj} {fs items : Array Value} {nc : Nat} {pieces : List (List Nat)} (hd : o.data = .fields fs) (h2 : fs.getD 2 .none = .int 0 u2) (h5 : fs.getD 5 .none = .ref C) (h6 : fs.getD 6 .none = .int 0 u6) (hd2 : o2.data = .seq items nc)
    (hc : (items.map reRawOf).map (·.toNat) = code.toArray) (hPD : P ≠ D) (hCD : C ≠ D) (hsz : text.length ≤ lim) (hps : pieces.length ≤ lim) (hok : okS pieces.flatten = true) (A : Around) (R : Result → Shared → Prop) :
    ∀ (k at' : Nat) (must : Bool) (acc : List (List Nat)) (l : List (Str × Tok)) (n : Int) (m : Nat) (s : Shared), subP code rep text k at' must acc = some pieces → s.heap.get? P = some o → s.heap.get? C = some o2 → s.heap.get? D = some ⟨.type "list", none, .seq (strValues l).toArray m, #[]⟩ → l.map (·.1) = acc.map strOf →
      (∀ h' tk t', (∀ b o, b ≠ D → s.heap.get? b = some o → h'.get? b = some o) → R (.ok (.ret (.str (strOf pieces.flatten) t'))) { s with heap := h', toks := tk }) →
      wpAny (model prg w) A.in1 (Builtin.«re.Pattern.sub.loop» ⟨[.ref P, .str (strOf text) t, .str (strOf rep) u, rawInt 0, rawInt 0, rawInt n, rawInt at', rawInt at', .bool must, .ref D, .bool false], []⟩)
        (fun fin s' => match fin with | .done f => R (.ok f) s' | .again c' => c'.quiet = true ∧ codeAny (model prg w) A c' R s') (fun e s' => R (.error e) s') s
  | 0, _, _, _, _, _, _, _, h, _, _, _, _, _ => by cases h
  | k + 1, at', must, acc, l, n, m, s, h, hP, hC, hD, hl, hR => by
    have hal := subP_len _ _ _ _ _ h
    have hlen : (strValues l).toArray.size ≤ sizeLine := by
      have : l.length = acc.length := by simpa using congrArg List.length hl
      rw [List.size_toArray, strValues, List.length_map, this]
      exact lim_size (Nat.le_trans hal hps)
    unfold subP at h
    obtain ⟨r, e, h⟩ := Option.bind_eq_some_iff.mp h
    show wpAny (model prg w) A.in1 (do
      let t ← reWholeTarget (.ref P) (.str (strOf text) t)
      _) _ _ s
    refine wpAny_bind (whole_ok hP hd h2 h5 h6 hC hd2 ?_)
    refine wpAny_bind ?_
    unfold reLiteralCannotBeTurned
    refine wpAny_bind (m := asStr? _) (wpAny_pure ?_)
    refine wpAny_ite_split (fun hab => absurd hab (by simp)) fun _ => wpAny_pure ?_
    dsimp only
    refine wpAny_bind (wpAny_ite_split (fun hab => absurd hab (by simp)) fun _ => ?_)
    refine found_ok (at' := at') rfl hc e ?_
    cases r with
    | some q =>
      obtain ⟨b, e2⟩ := q
      intro m' hs hh
      dsimp only at h
      have tail : ∀ (s₁ : Shared) (l₁ : List (Str × Tok)) (acc₁ : List (List Nat)) (m₁ : Nat), (∃ h' tk, s₁ = { s with heap := h', toks := tk } ∧ ∀ b o, b ≠ D → s.heap.get? b = some o → h'.get? b = some o) → acc₁.length ≤ pieces.length → subP code rep text k e2 (e2 == b) (acc₁ ++ [rep]) = some pieces →
          s₁.heap.get? D = some ⟨.type "list", none, .seq (strValues l₁).toArray m₁, #[]⟩ → l₁.map (·.1) = acc₁.map strOf →
          wpAny (model prg w) A.in1 (updateSeq D (fun x => x.push (.str (strOf rep) u)) >>= fun _ => again (Code.builtin "re.Pattern.sub.loop" ⟨[.ref P, .str (strOf text) t, .str (strOf rep) u, rawInt 0, rawInt 0, rawInt (n + 1), rawInt (m'.handed : Nat), rawInt (m'.handed : Nat), .bool (m'.handed == m'.start), .ref D, .bool false], []⟩))
            (fun fin s' => match fin with | .done f => R (.ok f) s' | .again c' => c'.quiet = true ∧ codeAny (model prg w) A c' R s') (fun e s' => R (.error e) s') s₁ := by
        rintro s₁ l₁ acc₁ m₁ ⟨h₁, tk₁, rfl, kk₁⟩ ha₁ h₁' hD₁ hl₁
        have hlen₁ : (strValues l₁).toArray.size ≤ sizeLine := by
          have : l₁.length = acc₁.length := by simpa using congrArg List.length hl₁
          rw [List.size_toArray, strValues, List.length_map, this]
          exact lim_size (Nat.le_trans ha₁ hps)
        refine wpAny_bind (push_ok hD₁ hlen₁ fun h₂ m₂ kk₂ hD₂ => ?_)
        refine wpAny_pure ⟨plainId_quiet plain_pat_loop _, codeAny_builtin entry_pat_loop ?_⟩
        rw [Around.under_plainId plain_pat_loop _]
        rw [hs, hh]
        refine loop_ok hd h2 h5 h6 hd2 hc hPD hCD hsz hps hok A R k e2 (e2 == b) (acc₁ ++ [rep]) (l₁ ++ [(strOf rep, u)]) (n + 1) m₂ _ h₁' (kk₂ _ _ hPD (kk₁ _ _ hPD hP)) (kk₂ _ _ hCD (kk₁ _ _ hCD hC)) ?_ (by simp [hl₁]) fun h' tk t' kk => hR h' tk t' fun b o hb e => kk b o hb (kk₂ b o hb (kk₁ b o hb e))
        rw [hD₂]
        simp [strValues]
      by_cases hlt : at' < b
      · rw [if_pos hlt] at h
        have hal' := subP_len _ _ _ _ _ h
        refine wpAny_ite_split (fun _ => ?_) fun hab => absurd (show at' < m'.start by rw [hs]; exact hlt) hab
        refine wpAny_bind (slice_ok hsz ?_)
        refine wpAny_bind (push_ok hD hlen fun h₁ m₁ kk₁ hD₁ => ?_)
        refine tail _ (l ++ [(strOf (cutT text at' m'.start), s.toks)]) (acc ++ [cutT text at' b]) m₁ ⟨h₁, _, rfl, kk₁⟩ (by simp at hal' ⊢; omega) h ?_ (by simp [hl, hs])
        refine hD₁.trans ?_
        simp [strValues]
      · rw [if_neg hlt] at h
        refine wpAny_ite_split (fun hab => absurd (show at' < b by rw [← hs]; exact hab) hlt) fun _ => ?_
        exact tail s l acc m ⟨s.heap, s.toks, rfl, fun _ _ _ e => e⟩ hal h hD hl
    | none =>
      dsimp only at h
      have tail : ∀ (s₁ : Shared) (l₁ : List (Str × Tok)) (m₁ : Nat), (∃ h' tk, s₁ = { s with heap := h', toks := tk } ∧ ∀ b o, b ≠ D → s.heap.get? b = some o → h'.get? b = some o) →
          s₁.heap.get? D = some ⟨.type "list", none, .seq (strValues l₁).toArray m₁, #[]⟩ → l₁.map (·.1) = pieces.map strOf →
          wpAny (model prg w) A.in1 (do
              let joiner ← reSlice (strOf text).cps 0 0 0
              let xs ← seqItems? (.ref D)
              if (xs.getD #[]).isEmpty = true then do let tx ← pure joiner; ret tx
                else do let tx ← call (.builtin "str.join") [joiner, .ref D]; ret tx)
            (fun fin s' => match fin with | .done f => R (.ok f) s' | .again c' => c'.quiet = true ∧ codeAny (model prg w) A c' R s') (fun e s' => R (.error e) s') s₁ := by
        rintro s₁ l₁ m₁ ⟨h₁, tk₁, rfl, kk₁⟩ hD₁ hl₁
        refine wpAny_bind (slice_ok hsz ?_)
        have e0 : cutT text 0 0 = [] := by unfold cutT; simp
        rw [e0]
        refine wpAny_bind (wpAny_seqItems hD₁ rfl ?_)
        cases l₁ with
        | nil =>
          refine wpAny_ite_split (fun _ => wpAny_bind (wpAny_pure (wpAny_pure ?_))) fun hab => absurd rfl hab
          have : pieces = [] := by
            have := congrArg List.length hl₁
            exact List.length_eq_zero_iff.mp (by simpa using this.symm)
          subst this
          exact hR h₁ _ _ kk₁
        | cons p l₁ =>
          refine wpAny_ite_split (fun hab => absurd hab (by simp [strValues])) fun _ => wpAny_bind ?_
          refine call_meets PySem.F.slot_str_join (typeIs_str _ _ _) PySem.F.entry_str_join (PySem.F.args_str_join_2 _ _) (meets_str_join_list (strOf []) _ D (p :: l₁) ?_) ⟨isList_of hD₁, ?_⟩
          · rw [hl₁, List.foldl_toArray]
            have : ((pieces.map strOf).foldl (fun a p => a + p.length + (strOf []).length) 0) = pieces.flatten.length := by rw [fold_len]; simp
            rw [this]
            unfold Builtin.Str.tooLong
            exact decide_eq_false (Nat.not_lt.mpr (lim_size (okS_iff.mp hok).1))
          · exact join_post hl₁ hok fun t' k' => wpAny_pure (hR h₁ k' t' kk₁)
      by_cases hlt : at' < text.length
      · rw [if_pos hlt] at h
        cases h
        refine wpAny_ite_split (fun _ => ?_) fun hab => absurd (show at' < (strOf text).cps.size by simpa [strOf] using hlt) hab
        refine wpAny_bind (slice_ok hsz ?_)
        refine wpAny_bind (push_ok hD hlen fun h₁ m₁ kk₁ hD₁ => ?_)
        have e9 : (strOf text).cps.size = text.length := by simp [strOf]
        refine tail _ (l ++ [(strOf (cutT text at' text.length), s.toks)]) m₁ ⟨h₁, _, rfl, kk₁⟩ ?_ (by simp [hl])
        refine hD₁.trans ?_
        rw [← e9]
        simp [strValues]; rfl
      · rw [if_neg hlt] at h
        cases h
        refine wpAny_ite_split (fun hab => absurd (show at' < text.length by simpa [strOf] using (show at' < (strOf text).cps.size from hab)) hlt) fun _ => ?_
        exact tail s l m ⟨s.heap, s.toks, rfl, fun _ _ _ e => e⟩ hD hl
end Mine
/-! part 30 -/
namespace Mine
open PySem PySem.Calls PyProof.Rows
open PySem.Builtin.Re
theorem str_noCall : typeLookup (.type "str") (Str.ofString "__call__") = pure none := by rw [typeLookup_type, builtinLookup_eq_fast]; kernel_rfl
noncomputable def subV (code : List Nat) : List V → Option V
  | [.str rep, .str text] => if rep.contains 92 then none else (subP code rep text 40 0 false []).bind fun pieces => if pieces.length ≤ lim ∧ okS pieces.flatten = true then some (.str pieces.flatten) else none
  | _ => none
section
variable {B : Base} {n : Nat} {xs : Names} {gs : List Str}
theorem sub_call {A : Around} {F : Fz} {s : Shared} {P C : Addr} {code rep text : List Nat} {t u u2 u6 : Tok} {o o2 : Obj} {fs items : Array Value} {nc : Nat} {r : V} (hA : AOk n A) (S : St B F s.heap) (hP : B.h₁.get? P = some o) (hC : B.h₁.get? C = some o2) (hcl : o.cls = .type "re.Pattern")
    (hd : o.data = .fields fs) (h2 : fs.getD 2 .none = .int 0 u2) (h5 : fs.getD 5 .none = .ref C) (h6 : fs.getD 6 .none = .int 0 u6) (hd2 : o2.data = .seq items nc)
    (hc : (items.map reRawOf).map (·.toNat) = code.toArray) (hx : okS text = true) (hr : subV code [.str rep, .str text] = some r) : Do B A F s (call (.builtin "re.Pattern.sub") [.ref P, .str (strOf rep) u, .str (strOf text) t]) (fun F' _ w => Rep F' w r) := by
  intro Q E hQ
  simp only [subV] at hr
  by_cases h92 : rep.contains 92 = true
  · rw [if_pos h92] at hr; cases hr
  · rw [if_neg h92] at hr
    obtain ⟨pieces, e, hr⟩ := Option.bind_eq_some_iff.mp hr
    by_cases hps : pieces.length ≤ lim ∧ okS pieces.flatten = true
    · rw [if_pos hps] at hr
      cases hr
      have hP' := S.g hP
      have hC' := S.g hC
      refine wpAny_call (codeAny_call_builtin slot_pat_sub.plain entry_pat_sub (slot_pat_sub.check _ _ _ _ _ _ _ _ ⟨_, hP', hcl⟩ (args_pat_sub _ _ _) ?_))
      show wpAny (model prg B.w) A.in1 (do
        let l ← reNamed "re.Pattern.sub" "sub" ["repl", "string", "count"] 2 [.str (strOf rep) u, .str (strOf text) t] []
        _) _ _ s
      rw [reNamed_two]
      refine wpAny_bind (wpAny_pure ?_)
      dsimp only
      refine wpAny_bind (wpAny_pure ?_)
      refine wpAny_bind (wpAny_specialOf (typeIs_str _ _ _) str_noCall ?_)
      refine wpAny_ite_split (fun hab => absurd hab (by decide)) fun _ => ?_
      refine wpAny_bind (m := asStr? _) (wpAny_pure ?_)
      dsimp only
      refine wpAny_bind (wpAny_pure ?_)
      refine wpAny_ite_split (fun hab => absurd hab (by decide)) fun _ => ?_
      have h92' : (!(strOf rep).cps.contains 92) = true := by
        have : (strOf rep).cps.contains 92 = rep.contains 92 := by simp [strOf]
        rw [this]; simpa using h92
      refine wpAny_ite_split (fun _ => wpAny_bind (wpAny_pure ?_)) fun hab => absurd h92' hab
      dsimp only
      refine wpAny_bind (wpAny_holding (whole_ok hP' hd h2 h5 h6 hC' hd2 ?_))
      refine wpAny_ite_split (fun hab => absurd hab (by decide)) fun _ => ?_
      have hn : s.heap.get? s.heap.objs.size = none := get_size _
      refine wpAny_bind (wpAny_newList (wpAny_pure ⟨plainId_quiet plain_pat_loop _, codeAny_builtin entry_pat_loop ?_⟩) (by decide))
      rw [Around.under_plainId plain_pat_loop _]
      have kk : ∀ b o, s.heap.get? b = some o → (s.heap.push { cls := .type "list", data := .seq ([] : List Value).toArray }).get? b = some o := fun b o e => Heap.get?_push_of_some _ e
      have hD0 : (s.heap.push { cls := .type "list", data := .seq ([] : List Value).toArray }).get? s.heap.objs.size = some ⟨.type "list", none, .seq (strValues []).toArray 0, #[]⟩ := Heap.get?_push_size _ rfl
      refine loop_ok (w := B.w) (t := t) (u := u) (code := code) (rep := rep) (text := text) (acc := []) (l := []) (at' := 0) (n := 0) (k := 40) (must := false) hd h2 h5 h6 hd2 hc (Nat.ne_of_lt (Heap.lt_size hP')) (Nat.ne_of_lt (Heap.lt_size hC')) (okS_iff.mp hx).1 hps.1 hps.2 A (wants Q E) 0 { s with heap := s.heap.push { cls := .type "list", data := .seq ([] : List Value).toArray } } e (kk _ _ hP') (kk _ _ hC') hD0 rfl fun h' tk t' k' => ?_
      exact hQ _ _ F (Next.keeps (t := tk) S fun b o e => k' b o (Nat.ne_of_lt (Heap.lt_size e)) (kk b o e)) (.str _ _ hps.2)
    · rw [if_neg hps] at hr; cases hr
theorem E_sub {x : Str} {px apos pos : Pos} {es : List Expr} {P C : Addr} {code : List Nat} {u2 u6 : Tok} {o o2 : Obj} {fs items : Array Value} {nc : Nat} {f : El} (hx : x ∈ gs) (hg : Glob B x (.ref P)) (hP : B.h₁.get? P = some o) (hC : B.h₁.get? C = some o2) (hcl : o.cls = .type "re.Pattern") (hdi : o.dict = none)
    (hd : o.data = .fields fs) (h2 : fs.getD 2 .none = .int 0 u2) (h5 : fs.getD 5 .none = .ref C) (h6 : fs.getD 6 .none = .int 0 u6) (hd2 : o2.data = .seq items nc) (hc : (items.map reRawOf).map (·.toNat) = code.toArray) (ha : ArgsR B n xs gs es f)
    (hfew : decide (es.length + ([] : List Keyword).length + (if ([] : List Keyword).isEmpty then 0 else 1) < 30) = true := by rfl) (hline : (apos.endLine == pos.line) = true := by rfl)
    (hbase : ∀ env, attributeBase (.Name x px) (Str.ofString "sub") env (eval (.Name x px) env) = eval (.Name x px) env := by intro _; rfl) :
    Evals B n xs gs (fun env => eval (.Call (.Attribute (.Name x px) (Str.ofString "sub") apos) es [] pos) env) (fun Γ σ => (f Γ σ).bind (subV code)) := by
  intro env A F μ Γ σ s r hA S R X hr Q E hQ
  obtain ⟨ps, ea, hr⟩ := Option.bind_eq_some_iff.mp hr
  refine wpAny_Call_method (hbase env) (by rw [ha.pall, hfew]; rfl) hline pa_pat slot_pat_sub type_pat_sub (hg A F env s px _ E S R.glob R.bui R.fn (R.gl x hx) ?_)
  refine ⟨⟨_, S.g hP, hcl⟩, (fun a e => by cases e; exact ⟨_, S.g hP, hdi⟩), ?_⟩
  refine callWith_any (ha.plain env pos) ?_
  refine ha.runs pos env A F μ Γ σ s ps hA S R X ea _ E fun vs s₂ F₂ n₂ r₂ => ?_
  refine Keep.builtin A F₂ s₂ _ E n₂.st fun k => ⟨rfl, ?_⟩
  unfold subV at hr
  split at hr
  · rename_i rep text
    cases r₂ with
    | cons r1 r2 => cases r2 with
      | cons r3 r4 =>
        cases r4
        cases r1
        cases r3
        rename_i u hu t ht
        exact sub_call hA n₂.st hP hC hcl hd h2 h5 h6 hd2 hc ht hr Q E fun v s₃ F₃ n₃ r₃ => hQ v s₃ F₃ (n₂.trans n₃) r₃
  · cases hr
end
theorem E_sub1 {B : Base} (ok : BaseOk B) {n : Nat} {xs : Names} {gs : List Str} {px apos pos : Pos} {es : List Expr} {f : El} (hx : Str.ofString "_twin_re_1" ∈ gs) (ha : ArgsR B n xs gs es f)
    (hfew : decide (es.length + ([] : List Keyword).length + (if ([] : List Keyword).isEmpty then 0 else 1) < 30) = true := by rfl) (hline : (apos.endLine == pos.line) = true := by rfl) :
    Evals B n xs gs (fun env => eval (.Call (.Attribute (.Name (Str.ofString "_twin_re_1") px) (Str.ofString "sub") apos) es [] pos) env) (fun Γ σ => (f Γ σ).bind (subV code1)) :=
  E_sub (P := 99) (C := 98) hx (glob_of ok (by rfl)) (ok.frag 99 _ rfl) (ok.frag 98 _ rfl) rfl rfl rfl rfl rfl rfl rfl (by decide +kernel) ha hfew hline
theorem E_sub2 {B : Base} (ok : BaseOk B) {n : Nat} {xs : Names} {gs : List Str} {px apos pos : Pos} {es : List Expr} {f : El} (hx : Str.ofString "_twin_re_2" ∈ gs) (ha : ArgsR B n xs gs es f)
    (hfew : decide (es.length + ([] : List Keyword).length + (if ([] : List Keyword).isEmpty then 0 else 1) < 30) = true := by rfl) (hline : (apos.endLine == pos.line) = true := by rfl) :
    Evals B n xs gs (fun env => eval (.Call (.Attribute (.Name (Str.ofString "_twin_re_2") px) (Str.ofString "sub") apos) es [] pos) env) (fun Γ σ => (f Γ σ).bind (subV code2)) :=
  E_sub (P := 104) (C := 103) hx (glob_of ok (by rfl)) (ok.frag 104 _ rfl) (ok.frag 103 _ rfl) rfl rfl rfl rfl rfl rfl rfl (by decide +kernel) ha hfew hline
end Mine
/-! part 31 -/
namespace Mine
open PySem PySem.Calls PyProof.Rows
noncomputable def xs_quotedata : Names := [(Str.ofString "data", .loc)]
noncomputable def gs_quotedata : List Str := [Str.ofString "_twin_re_1", Str.ofString "_twin_re_2", Str.ofString "CRLF"]
noncomputable def w_quotedata : {f : List V → Option V // ∀ B, BaseOk B → FnOk B (10 + 1) (.ref 111) f} := ⟨pfn [(Str.ofString "data", .loc)] 1 _, fun B ok =>
  fn_ok (np := 1) (gs := [Str.ofString "_twin_re_1", Str.ofString "_twin_re_2", Str.ofString "CRLF"]) ok.lim (ok.frag 111 _ rfl) rfl rfl rfl rfl rfl (PySem.W.codeRec_of ok.frag rfl) (fscope_of (by decide +kernel)) (by decide) (vals1 fun _ => rfl)
    (X_cons (X_ret (E_sub1 ok (List.mem_of_getElem? (i := 0) rfl) (A_cons (E_str (l := [46, 46]) rfl) (A_cons (E_sub2 ok (List.mem_of_getElem? (i := 1) rfl) (A_cons (E_gstr (l := [13, 10]) (List.mem_of_getElem? (i := 2) rfl) (glob_of ok (by rfl)) rfl) (A_cons (E_name (i := 0) rfl) A_nil))) A_nil))))
    X_nil)⟩
noncomputable def xs_fix_eols : Names := [(Str.ofString "data", .loc)]
noncomputable def gs_fix_eols : List Str := [Str.ofString "_twin_re_2", Str.ofString "CRLF"]
noncomputable def w_fix_eols : {f : List V → Option V // ∀ B, BaseOk B → FnOk B (10 + 1) (.ref 118) f} := ⟨pfn [(Str.ofString "data", .loc)] 1 _, fun B ok =>
  fn_ok (np := 1) (gs := [Str.ofString "_twin_re_2", Str.ofString "CRLF"]) ok.lim (ok.frag 118 _ rfl) rfl rfl rfl rfl rfl (PySem.W.codeRec_of ok.frag rfl) (fscope_of (by decide +kernel)) (by decide) (vals1 fun _ => rfl)
    (X_cons (X_ret (E_sub2 ok (List.mem_of_getElem? (i := 0) rfl) (A_cons (E_gstr (l := [13, 10]) (List.mem_of_getElem? (i := 1) rfl) (glob_of ok (by rfl)) rfl) (A_cons (E_name (i := 0) rfl) A_nil))))
    X_nil)⟩
noncomputable def xs_law_posts : Names := [(Str.ofString "mail", .loc), (Str.ofString "last", .loc), (Str.ofString "posts", .loc), (Str.ofString "sent", .loc), (Str.ofString "hour", .loc)]
noncomputable def gs_law_posts : List Str := [Str.ofString "_fix_eols", Str.ofString "range", Str.ofString "quotedata"]
noncomputable def w_law_posts : {f : List V → Option V // ∀ B, BaseOk B → FnOk B (20 + 1) (.ref 201) f} := ⟨pfn [(Str.ofString "mail", .loc), (Str.ofString "last", .loc), (Str.ofString "posts", .loc), (Str.ofString "sent", .loc), (Str.ofString "hour", .loc)] 2 _, fun B ok =>
  fn_ok (np := 2) (gs := [Str.ofString "_fix_eols", Str.ofString "range", Str.ofString "quotedata"]) ok.lim (ok.frag 201 _ rfl) rfl rfl rfl rfl rfl (PySem.W.codeRec_of ok.frag rfl) (fscope_of (by decide +kernel)) (by decide) (vals2 fun _ _ => rfl)
    (X_cons (X_mut (i := 2) rfl (by decide) (FL_disp (A_cons (E_call (List.mem_of_getElem? (i := 0) rfl) (g__fix_eols ok) (k__fix_eols ok) ((w_fix_eols.2 _ ok).up (by decide)) (A_cons (E_name (i := 0) rfl) A_nil)) A_nil)))
    (X_cons (X_assign (i := 3) rfl (by decide) (E_name (i := 0) rfl))
    (X_cons (X_for (i := 4) rfl (by decide) (It_range1 (List.mem_of_getElem? (i := 1) rfl) (g_range ok) (E_name (i := 1) rfl)) (X_cons (X_assign (i := 3) rfl (by decide) (E_call (List.mem_of_getElem? (i := 2) rfl) (g_quotedata ok) (k_quotedata ok) ((w_quotedata.2 _ ok).up (by decide)) (A_cons (E_name (i := 3) rfl) A_nil)))
    (X_cons (X_append (i := 2) rfl (E_name (i := 3) rfl))
    X_nil)))
    (X_cons (X_frz (i := 2) rfl (X_ret (E_name (i := 2) rfl)))
    X_nil))))⟩
end Mine
/-! part 32 -/
namespace Mine
open PySem PySem.Calls PyProof.Rows
section
variable {B : Base} {n : Nat} {xs : Names} {gs : List Str}
theorem handed_of {F : Fz} {v : Value} {p : V} (r : Rep F v p) : PySem.W.handedIn v = true := by cases r <;> rfl
theorem look_some {es : Array DictEntry} {k : Nat} {o : Obj} {x : Str} {v : Value} (hd : o.data = .dict es k) (h : nsFind es x = some v) : PySem.W.lookIn x o = some (some v) := by
  unfold PySem.W.lookIn
  rw [hd]
  unfold nsFind findBy at h
  rw [← Array.find?_toList] at h
  obtain ⟨e, he, rfl⟩ := Option.map_eq_some_iff.mp h
  dsimp only
  rw [he]
theorem look_none {es : Array DictEntry} {k : Nat} {o : Obj} {x : Str} (hd : o.data = .dict es k) (hk : StrKeys es) (h : nsFind es x = none) : PySem.W.lookIn x o = some none := by
  unfold PySem.W.lookIn
  rw [hd]
  unfold nsFind findBy at h
  rw [← Array.find?_toList, Option.map_eq_none_iff] at h
  dsimp only
  rw [h]
  have : es.toList.any (·.refKey) = false := by
    rw [List.any_eq_false]
    intro e he
    obtain ⟨n, t, hh⟩ := hk e (by simpa using he)
    simp [DictEntry.refKey, hh]
  simp [this]
theorem fragIn (ok : BaseOk B) {F : Fz} {h : Heap} (S : St B F h) : PySem.W.Frag.In (hd.heap_39 B.w.params) h := fun a o e => S.g (ok.frag a o e)
/-- the class's own values -/
theorem E_cls (ok : BaseOk B) {px pos : Pos} {x : Str} {l : List Nat} {t : Tok} (hx : Str.ofString "Whitespace" ∈ gs) (e : PySem.W.findCls (hd.heap_39 B.w.params) (.ref 180) (.type "type") x = some (.val (.str (strOf l) t))) (hl : okS l = true) :
    Evals B n xs gs (fun env => eval (.Attribute (.Name (Str.ofString "Whitespace") px) x pos) env) (pk (.str l)) := by
  intro env A F μ Γ σ s p hA S R X hf Q E hQ
  cases hf
  show wpAny _ _ (eval (.Attribute (.Name (Str.ofString "Whitespace") px) x pos) env) _ _ _
  rw [arm_eval_Attribute]
  show wpAny _ _ (eval (.Name (Str.ofString "Whitespace") px) env >>= _) _ _ _
  refine wpAny_bind (g_Whitespace ok A F env s px _ E S R.glob R.bui R.fn (R.gl _ hx) ?_)
  refine wpAny_bind (wpAny_standAt (wpAny_bind (wpAny_holding ?_)))
  refine PySem.W.cls_value (C := 180) (mc := .type "type") (fragIn ok S) (by rfl) e rfl ?_
  exact wpAny_bind (wpAny_of_eq (a := ()) rfl (wpAny_pure (hQ _ _ F (.toks S _) (.str _ _ hl))))
/-- reading the norm of a frozen object -/
noncomputable def normV : V → Option V
  | .ws p => some p
  | _ => none
theorem get_norm (ok : BaseOk B) {A : Around} {F : Fz} {s : Shared} {v : Value} {p : V} {Q : Value → Shared → Prop} {E : Value → Shared → Prop} {ex : Bool} (S : St B F s.heap) (r : Rep F v (.ws p)) (hQ : ∀ w s' F', Next B F s F' s' → Rep F' w p → Q w s') :
    wpAny (model prg B.w) A (getAttr v (Str.ofString "norm") ex) Q E s := by
  cases r with
  | @ws a d es k od w _ h hd' hdat hk hv hne r =>
    have I : PySem.W.InstAt s.heap a ⟨.ref wsCls, some d, .plain, #[]⟩ 180 (some od) := ⟨S.sub _ _ h, rfl, rfl, S.sub _ _ hd'⟩
    exact PySem.W.get_value (fragIn ok S) I (by rfl) (PySem.W.findObj_own (attr := none) (by rfl) (by rfl) (by rfl) (look_some hdat hv)) (handed_of r) (hQ _ _ F (.toks S _) r)
theorem E_norm (ok : BaseOk B) {e : Expr} {pos : Pos} {f : E} (he : Evals B n xs gs (fun env => eval e env) f) (hb : ∀ env, attributeBase e (Str.ofString "norm") env (eval e env) = eval e env := by intro _; rfl) : Evals B n xs gs (fun env => eval (.Attribute e (Str.ofString "norm") pos) env) (p1 normV f) := by
  intro env A F μ Γ σ s p hA S R X hf Q E hQ
  obtain ⟨a, ea, hf⟩ := Option.bind_eq_some_iff.mp hf
  have hf2 : a = .ws p := by
    cases a <;> first | (cases hf; rfl) | cases hf
  clear hf
  subst hf2
  show wpAny _ _ (eval (.Attribute e (Str.ofString "norm") pos) env) _ _ _
  rw [arm_eval_Attribute, hb]
  refine wpAny_bind (he env A F μ Γ σ s _ hA S R X ea _ E fun v s₁ F₁ n₁ r₁ => ?_)
  refine wpAny_bind (wpAny_standAt (wpAny_bind (wpAny_holding ?_)))
  refine get_norm ok n₁.st r₁ fun w s₂ F₂ n₂ r₂ => ?_
  exact wpAny_bind (wpAny_letTemporaryGo (wpAny_pure (hQ w s₂ F₂ (n₁.trans n₂) r₂)))
/-- calling equal -/
theorem E_equal (ok : BaseOk B) {o : Expr} {apos pos : Pos} {es : List Expr} {f : E} {fs : El} {h : List V → Option V} (hm : FnOk B n (.ref 156) h) (ho : Evals B n xs gs (fun env => eval o env) f) (ha : ArgsR B n xs gs es fs)
    (hfew : decide (es.length + ([] : List Keyword).length + (if ([] : List Keyword).isEmpty then 0 else 1) < 30) = true := by rfl) (hline : (apos.endLine == pos.line) = true := by rfl)
    (hbase : ∀ env, attributeBase o (Str.ofString "equal") env (eval o env) = eval o env := by intro _; rfl) :
    Evals B n xs gs (fun env => eval (.Call (.Attribute o (Str.ofString "equal") apos) es [] pos) env) (fun Γ σ => (f Γ σ).bind fun a => match a with | .ws _ => (fs Γ σ).bind fun l => h (a :: l) | _ => none) := by
  intro env A F μ Γ σ s r hA S R X hr Q E hQ
  obtain ⟨p, ep, hr⟩ := Option.bind_eq_some_iff.mp hr
  cases p <;> simp only [reduceCtorEq] at hr
  rename_i p
  obtain ⟨ps, ea, hr⟩ := Option.bind_eq_some_iff.mp hr
  show wpAny _ _ (eval (.Call (.Attribute o (Str.ofString "equal") apos) es [] pos) env) _ _ _
  rw [arm_eval_Call, hbase]
  refine wpAny_bind (ho env A F μ Γ σ s _ hA S R X ep _ E fun ov s₁ F₁ n₁ r₁ => ?_)
  refine wpAny_bind (wpAny_standAt ?_)
  have hform : methodCallForm (es.length + ([] : List Keyword).length) (backTo pos (starEach es env)) (backToKw pos (keywordEach [] env)) = true := by
    unfold methodCallForm
    rw [ha.pall]; exact hfew
  have hpos : methodCallPos true o env apos pos = pure pos := by unfold methodCallPos; simp [hline]
  unfold methodCall
  rw [hform]
  have fin : ∀ s' : Shared, s' = s₁ → wpAny (model prg B.w) A (callWith pos (.ref 156) [ov] (backTo pos (starEach es env)) []) Q E s' := by
    rintro s' rfl
    refine callWith_any (ha.plain env pos) ?_
    refine ha.runs pos env A F₁ μ Γ σ s' ps hA n₁.st (R.next n₁) (X.next n₁) ea _ E fun vs s₂ F₂ n₂ r₂ => ?_
    refine (Keep.func (ok.frag 156 _ rfl) rfl : Keep B (.ref 156)) A F₂ s₂ _ E n₂.st fun k => ⟨rfl, ?_⟩
    exact hm A F₂ s₂ (ov :: vs) (.ws p :: ps) r hA n₂.st (.cons (r₁.mono n₂.ext) r₂) hr Q E fun v s₃ F₃ n₃ r₃ => hQ v s₃ F₃ ((n₁.trans n₂).trans n₃) r₃
  cases r₁ with
  | @ws a d es' k od w _ h1 hd' hdat hk hv hne r =>
    have I : PySem.W.InstAt s₁.heap a ⟨.ref wsCls, some d, .plain, #[]⟩ 180 (some od) := ⟨n₁.st.sub _ _ h1, rfl, rfl, n₁.st.sub _ _ hd'⟩
    refine wpAny_bind (wpAny_holding (PySem.W.method_fn (f := 156) (fragIn ok n₁.st) I (by rfl) (by rfl) (by rfl) (by rfl) (by show Option.map _ (PySem.W.lookIn _ od) = _; rw [look_none hdat hk hne]; rfl) ?_))
    exact wpAny_bind (wpAny_of_eq hpos (fin s₁ rfl))
end
end Mine
/-! part 33 -/
namespace Mine
open PySem PySem.Calls PyProof.Rows
section
variable {B : Base} {n : Nat} {xs : Names} {gs : List Str}
theorem nsSetS {M : Model} {A : Around} {E : Value → Shared → Prop} {s : Shared} {a : Addr} {m : Str → Option Value} {N : Nat} {name : Str} {v : Value} {Q : Unit → Shared → Prop} (hn : NsS s.heap a m N)
    (hQ : ∀ h', NsS h' a (fun x => if x = name then some v else m x) (N + 1) → Heap.SameBut a s.heap h' → Q () { s with heap := h', toks := s.toks + 1 }) : wpAny M A (nsSet a name v) Q E s := fun Γ p _ => by
  obtain ⟨o, es, ep, ho, hd, hk, hz, hm⟩ := hn
  simp only [nsSet, strHash, Sem.wp_bind', Sem.wp_cmd_ask, Sem.wp_pure', Sem.wp_cmd_mkText]
  rw [Sem.wp_loadPart_of M Γ _ p { s with toks := s.toks + 1 } (o := o) _ ho]
  have hany : es.any (·.refKey) = false := by
    rw [Array.any_eq_false']; intro e he; obtain ⟨n, t, h⟩ := hk e he; simp [DictEntry.refKey, h]
  simp only [hd, aRefKeyMayBeTheName_eq, aRefKeyMayBeTheNameByArray, hany, Bool.and_false, Bool.false_eq_true, if_false, Sem.wp_cmd_updatePart]
  refine ⟨by rw [ho]; rfl, hQ _ ?_ (Heap.SameBut.update ..)⟩
  obtain ⟨c, d, dt, sl⟩ := o
  subst hd
  cases hi : es.findIdx? (·.key.isStr name) with
  | some i =>
    refine ⟨_, _, ep, Heap.get?_update_self _ ho (by simp only [Obj.putName_eq, Obj.putNameByArray, hi]; rfl), by simp only [Obj.putName_eq, Obj.putNameByArray, hi]; rfl, hk.modify _ _, by simp; (first | lia | omega), fun x => ?_⟩
    show _ = if x = name then some v else m x
    rw [← hm]; exact findBy_modify (fun n v => v.isStr n) Value.isStr_inj es name x v i hi
  | none =>
    refine ⟨_, _, ep + 1, Heap.get?_update_self _ ho (by simp only [Obj.putName_eq, Obj.putNameByArray, hi]; rfl), by simp only [Obj.putName_eq, Obj.putNameByArray, hi]; rfl, hk.push _ _ _ _, by simp; (first | lia | omega), fun x => ?_⟩
    show _ = if x = name then some v else m x
    rw [← hm]
    exact findBy_push (fun n v => v.isStr n) es name x _ _ v (fun y => by
      show (name == y) = decide (y = name)
      by_cases h : y = name
      · subst h; simp
      · have : ¬ name = y := fun e => h e.symm
        simp [h, this]) hi
noncomputable def asInst (Γ : Cx) (σ : AH) (i : Nat) : Option (Nat × List (List Nat × V)) := match Γ[i]? with
  | some (.ref j) => (match σ[j]? with | some (.inst fs) => some (j, fs) | _ => none)
  | _ => none
theorem asInst_some {Γ : Cx} {σ : AH} {i j : Nat} {fs : List (List Nat × V)} (h : asInst Γ σ i = some (j, fs)) : Γ[i]? = some (.ref j) ∧ σ[j]? = some (.inst fs) := by
  unfold asInst at h
  split at h
  · rename_i j' hj
    split at h
    · rename_i fs' hs
      cases h; exact ⟨hj, hs⟩
    · cases h
  · cases h
noncomputable def xsetattr (i : Nat) (x : List Nat) (f : E) : S := fun Γ σ => (f Γ σ).bind fun p => (asInst Γ σ i).bind fun q => if q.2.length ≤ 1000 then some (.next, Γ, σ.set q.1 (.inst ((x, p) :: q.2))) else none
theorem X_setattr (ok : BaseOk B) {i : Nat} {y nm : Str} {k : Kd} {x : List Nat} {px apos pos : Pos} {value : Expr} {f : E} (hy : xs[i]? = some (y, k)) (hnm : nm = strOf x) (ht : PySem.W.takerIn (hd.heap_39 B.w.params) 180 nm = some none)
    (h : Evals B n xs gs (fun env => eval value env) f) (hs : ∀ env, swapsWith value (some (.Attribute (.Name y px) nm apos)) pos.line env = pure false := by intro _; rfl) :
    Exec1 B n xs gs (.Assign [.Attribute (.Name y px) nm apos] value pos) (xsetattr i x f) := by
  intro env A F μ Γ σ s r hA S R X hf Q E hQ
  obtain ⟨p, ep, hf⟩ := Option.bind_eq_some_iff.mp hf
  obtain ⟨⟨j, fs⟩, ei, hf⟩ := Option.bind_eq_some_iff.mp hf
  have hsz : fs.length ≤ 1000 := by
    dsimp only at hf
    split at hf
    · assumption
    · cases hf
  dsimp only at hf
  rw [if_pos hsz] at hf
  cases hf
  obtain ⟨hj, hσ⟩ := asInst_some ei
  refine plainObj_wpAny_Assign_Attribute (h env A F μ Γ σ s p hA S R X ep _ E fun v s₁ F₁ n₁ r₁ => ?_) (hs env)
  have R₁ := R.next n₁
  have X₁ := X.next n₁
  refine wpAny_Name (loadName_has R₁ hy hj (by simp) fun w hw => ?_) (R.nodbg _ _ (List.mem_of_getElem? hy)).1
  obtain ⟨a, rr, rfl, hμ⟩ := hw
  obtain ⟨a', d, m, e1, e2, e3, e4, e5, hx⟩ := X₁.at' j _ _ hμ hσ
  cases e1
  have e5' := e5
  obtain ⟨od, es, ne, ho, hdat, hk, hz, hfind⟩ := e5
  have I : PySem.W.InstAt s₁.heap a ⟨.ref wsCls, some d, .plain, #[]⟩ 180 (some od) := ⟨e4, rfl, rfl, ho⟩
  have K := fragIn ok n₁.st
  have hh : PySem.W.hasDictIn (hd.heap_39 B.w.params) wsCls = true := by rfl
  obtain ⟨cd, hc, hd'⟩ := PySem.W.any_some hh
  have hdF : d ∈ μ.flatten := mem_flatten_of hμ (.tail _ (.head _))
  refine PySem.W.set_plain K I (by rfl) ?_
  refine PySem.W.osa_open (s := { s₁ with toks := s₁.toks + 1 }) (r := none) K I (by rfl) ht fun b => ?_
  refine wpAny_bind (wpAny_pure (wpAny_bind (wpAny_bind (wpAny_loadPart e4 (wpAny_bind (PySem.W.looks_clsIn K hc _ _ _ _ (fun _ _ e => e) ?_))))))
  rw [hd']
  refine wpAny_pure (a := some d) (wpAny_bind (wpAny_pure (wpAny_bind (nsSetS e5' fun h' hn' hs' => ?_))))
  have kk : ∀ b o, b ≠ d → s₁.heap.get? b = some o → h'.get? b = some o := fun b o ne e => (hs'.2 b ne).trans e
  have hex : ∃ o, h'.get? d = some o := let ⟨o, _, _, e, _⟩ := hn'; ⟨o, e⟩
  obtain ⟨od', es', ep', q1, q2, q3, q4, q5⟩ := id hn'
  refine wpAny_bind (wpAny_lookBehind q1 (by rw [q2]; exact pastItsLine_dict (by rw [sizeLine_eq]; (first | lia | omega))) ?_)
  have hda : d ≠ a := by
    intro e; subst e
    rw [e4] at ho; cases ho; cases hdat
  refine wpAny_pure (hQ .next _ F₁ μ (n₁.toS.trans (snext_change (tk := s₁.toks + 1 + 1) n₁.st (.inr hdF) e3 (X₁.notab _ hdF) kk hex)) ⟨trivial, R₁.mut hdF kk, X₁.turn hμ (.tail _ (.head _)) kk hex ⟨a, d, _, rfl, e2, e3, kk _ _ hda.symm e4, hn', fun z => ?_⟩⟩)
  by_cases hz : z = x
  · subst hz
    simp only [List.lookup_cons, beq_self_eq_true]
    exact ⟨v, by rw [hnm, if_pos rfl], r₁⟩
  · have hb : (z == x) = false := by simpa using hz
    simp only [List.lookup_cons, hb]
    have hne : strOf z ≠ nm := fun e => hz (strOf_inj (e.trans hnm))
    have := hx z
    split at this
    · obtain ⟨w, h1, h2⟩ := this
      rename_i q hq
      rw [hq]
      exact ⟨w, by rw [if_neg hne]; exact h1, h2⟩
    · rename_i hq
      rw [hq]
      show (if strOf z = nm then some v else m (strOf z)) = none
      rw [if_neg hne]; exact this
/-- reading what one has stored -/
noncomputable def pattr (i : Nat) (x : List Nat) : E := fun Γ σ => (asInst Γ σ i).bind fun q => q.2.lookup x
theorem E_attr (ok : BaseOk B) {i : Nat} {y nm : Str} {k : Kd} {x : List Nat} {px pos : Pos} (hy : xs[i]? = some (y, k)) (hnm : nm = strOf x) (hfi : PySem.W.findIn (hd.heap_39 B.w.params) (.ref 180) nm = some none)
    (hb : ∀ env, attributeBase (.Name y px) nm env (eval (.Name y px) env) = eval (.Name y px) env := by intro _; rfl) (hg : ∀ o r, letTemporaryGo (.Name y px) o r = pure () := by intro _ _; with_unfolding_all rfl) :
    Evals B n xs gs (fun env => eval (.Attribute (.Name y px) nm pos) env) (pattr i x) := by
  intro env A F μ Γ σ s p hA S R X hf Q E hQ
  obtain ⟨⟨j, fs⟩, ei, hl⟩ := Option.bind_eq_some_iff.mp hf
  obtain ⟨hj, hσ⟩ := asInst_some ei
  show wpAny _ _ (eval (.Attribute (.Name y px) nm pos) env) _ _ _
  rw [arm_eval_Attribute, hb]
  refine wpAny_bind (wpAny_Name (loadName_has R hy hj (by simp) fun w hw => ?_) (R.nodbg _ _ (List.mem_of_getElem? hy)).1)
  obtain ⟨a, rr, rfl, hμ⟩ := hw
  obtain ⟨a', d, m, e1, e2, e3, e4, e5, hx⟩ := X.at' j _ _ hμ hσ
  cases e1
  obtain ⟨od, es, ne, ho, hdat, hk, hz, hfind⟩ := e5
  have I : PySem.W.InstAt s.heap a ⟨.ref wsCls, some d, .plain, #[]⟩ 180 (some od) := ⟨e4, rfl, rfl, ho⟩
  have hv := hx x
  dsimp only at hl
  rw [hl] at hv
  obtain ⟨v, h1, h2⟩ := hv
  rw [← hnm, ← hfind] at h1
  refine wpAny_bind (wpAny_standAt (wpAny_bind (wpAny_holding ?_)))
  refine PySem.W.get_value (fragIn ok S) I (by rfl) (PySem.W.findObj_own (attr := none) (by rfl) hfi (by rfl) (look_some hdat h1)) (handed_of h2) ?_
  exact wpAny_bind (wpAny_of_eq (a := ()) (hg _ _) (wpAny_pure (hQ _ _ F (.toks S _) h2)))
end
end Mine
/-! part 34 -/
namespace Mine
open PySem PySem.Calls PyProof.Rows
noncomputable def xs_init : Names := [(Str.ofString "self", .loc), (Str.ofString "ws", .loc), (Str.ofString "S", .loc), (Str.ofString "T", .loc), (Str.ofString "count", .loc), (Str.ofString "b", .loc), (Str.ofString "n", .loc), (Str.ofString "nt", .loc), (Str.ofString "ch", .loc)]
noncomputable def gs_init : List Str := [Str.ofString "Whitespace", Str.ofString "len", Str.ofString "tuple"]
noncomputable def g_init : {g : S // ∀ (B : Base), BaseOk B → ExecL B 10 [(Str.ofString "self", .loc), (Str.ofString "ws", .loc), (Str.ofString "S", .loc), (Str.ofString "T", .loc), (Str.ofString "count", .loc), (Str.ofString "b", .loc), (Str.ofString "n", .loc), (Str.ofString "nt", .loc), (Str.ofString "ch", .loc)] [Str.ofString "Whitespace", Str.ofString "len", Str.ofString "tuple"] (bodyOf 135) g} := ⟨_, fun B ok => by
  show ExecL B 10 [(Str.ofString "self", .loc), (Str.ofString "ws", .loc), (Str.ofString "S", .loc), (Str.ofString "T", .loc), (Str.ofString "count", .loc), (Str.ofString "b", .loc), (Str.ofString "n", .loc), (Str.ofString "nt", .loc), (Str.ofString "ch", .loc)] [Str.ofString "Whitespace", Str.ofString "len", Str.ofString "tuple"] (bodyOf 135) _
  exact (X_cons (X_setattr ok (i := 0) (x := [114, 97, 119]) rfl rfl (by rfl) (E_name (i := 1) rfl))
    (X_cons (X_swap2 (i := 2) (j := 3) rfl rfl (E_tup (A_cons (E_cls ok (l := [32]) (List.mem_of_getElem? (i := 0) rfl) (by rfl) (by decide)) (A_cons (E_cls ok (l := [9]) (List.mem_of_getElem? (i := 0) rfl) (by rfl) (by decide)) A_nil))) (by decide) (by intro env hb hx hy; unfold swappedStores; simp only [hb, List.filterMap_cons, List.filterMap_nil, hx, hy]; with_unfolding_all rfl))
    (X_cons (X_mut (i := 4) rfl (by decide) (FL_disp A_nil))
    (X_cons (X_assign3 (i := 5) (j := 6) (l := 7) rfl (by decide) rfl (by decide) rfl (by decide) E_int)
    (X_cons (X_for (i := 8) rfl (by decide) (It_str (E_attr ok (i := 0) (x := [114, 97, 119]) rfl rfl (by rfl))) (X_cons (X_if (T_cmp eq_ok (E_name (i := 8) rfl) (E_name (i := 2) rfl)) (X_cons (X_assign (i := 6) rfl (by decide) (E_bin add_ok (E_name (i := 6) rfl) E_int))
    (X_cons (X_assign (i := 5) rfl (by decide) (E_bin add_ok (E_name (i := 5) rfl) E_int))
    X_nil)) (X_cons (X_if (T_cmp eq_ok (E_name (i := 8) rfl) (E_name (i := 3) rfl)) (X_cons (X_assign (i := 6) rfl (by decide) (E_bin add_ok (E_name (i := 6) rfl) E_int))
    (X_cons (X_assign (i := 7) rfl (by decide) (E_bin add_ok (E_name (i := 7) rfl) E_int))
    (X_cons (X_if (T_cmp ge_ok (E_name (i := 5) rfl) (E_call1 (List.mem_of_getElem? (i := 1) rfl) (g_len ok) Keep.builtin len_now (N_ref (i := 4) rfl))) (X_cons (X_mut (i := 4) rfl (by decide) (FL_add (N_ref (i := 4) rfl) (N_fresh (FL_mul (N_fresh (FL_disp (A_cons E_int A_nil))) (E_bin add_ok (E_bin sub_ok (E_name (i := 5) rfl) (E_call1 (List.mem_of_getElem? (i := 1) rfl) (g_len ok) Keep.builtin len_now (N_ref (i := 4) rfl))) E_int)))))
    X_nil) X_nil)
    (X_cons (X_setitem (i := 4) rfl (E_bin add_ok (E_itemN (N_ref (i := 4) rfl) (E_name (i := 5) rfl)) E_int) (E_name (i := 5) rfl))
    (X_cons (X_assign (i := 5) rfl (by decide) E_int)
    X_nil))))) (X_cons X_brk
    X_nil))
    X_nil))
    X_nil))
    (X_cons (X_setattr ok (i := 0) (x := [110]) rfl rfl (by rfl) (E_name (i := 6) rfl))
    (X_cons (X_setattr ok (i := 0) (x := [110, 116]) rfl rfl (by rfl) (E_name (i := 7) rfl))
    (X_cons (X_setattr ok (i := 0) (x := [110, 111, 114, 109]) rfl rfl (by rfl) (E_tup (A_cons (E_call1 (List.mem_of_getElem? (i := 2) rfl) (g_tuple ok) Keep.type tuple_now (N_ref (i := 4) rfl)) (A_cons (E_name (i := 5) rfl) A_nil))))
    (X_cons (X_setattr ok (i := 0) (x := [105, 115, 95, 115, 105, 109, 112, 108, 101]) rfl rfl (by rfl) (E_cmp le_ok (E_call1 (List.mem_of_getElem? (i := 1) rfl) (g_len ok) Keep.builtin len_now (N_ref (i := 4) rfl)) E_int))
    X_nil)))))))))⟩
noncomputable def xs_equal : Names := [(Str.ofString "self", .loc), (Str.ofString "other", .loc)]
noncomputable def gs_equal : List Str := []
noncomputable def w_equal : {f : List V → Option V // ∀ B, BaseOk B → FnOk B (10 + 1) (.ref 156) f} := ⟨pfn [(Str.ofString "self", .loc), (Str.ofString "other", .loc)] 2 _, fun B ok =>
  fn_ok (np := 2) (gs := []) ok.lim (ok.frag 156 _ rfl) rfl rfl rfl rfl rfl (PySem.W.codeRec_of ok.frag rfl) (fscope_of (by decide +kernel)) (by decide) (vals2 fun _ _ => rfl)
    (X_cons (X_ret (E_cmp eq_ok (E_norm ok (E_name (i := 0) rfl)) (E_norm ok (E_name (i := 1) rfl))))
    X_nil)⟩
theorem equal_ok {B : Base} (ok : BaseOk B) : FnOk B 11 (.ref 156) w_equal.1 := w_equal.2 _ ok
end Mine
/-! part 35 -/
namespace Mine
open PySem PySem.Calls PyProof.Rows
noncomputable def normChars : List Nat := [110, 111, 114, 109]
noncomputable def equalChars : List Nat := [101, 113, 117, 97, 108]
noncomputable def startI (p : V) : Cx := [.ref 0, .val p, .undef, .undef, .undef, .undef, .undef, .undef, .undef]
noncomputable def wsV : V → Option V := fun p => (g_init.1 (startI p) [.inst []]).bind fun r => match r.1, r.2.2 with
  | .next, .inst fs :: _ => if (fs.lookup equalChars).isNone then (fs.lookup normChars).map .ws else none
  | _, _ => none
theorem k_Whitespace {B : Base} (ok : BaseOk B) : Keep B (.ref 180) := fun A F s Q E S h => by
  obtain ⟨k, _, L⟩ := PySem.W.looks_keep (M := model prg B.w) (f := .ref 180) (by rfl) (fragIn ok S)
  exact L.here (h k)
theorem initKnd : ∀ y ∈ xs_init, y.2 = Kd.loc := by decide
noncomputable def scOf (a : Addr) : Scope := match (hd.heap_39 p00).lookup a with
  | some ⟨_, _, .func fd, _⟩ => fd.scope
  | _ => default
theorem init_fs : FScope (scOf 135) xs_init gs_init := fscope_of (by decide +kernel)
theorem init_nc : ∀ x ∈ (scOf 135).names, x.2 ≠ .cell := by decide +kernel
theorem tc_weight (C : Addr) (args : List Value) : (Code.builtin "type.__call__" ⟨.ref C :: args, []⟩).weight ≤ 1 ∧ (Code.builtin "type.__call__" ⟨.ref C :: args, []⟩).cUnits ≤ 10 := by
  exact ⟨Nat.le_of_ble_eq_true rfl, Nat.le_of_ble_eq_true rfl⟩
theorem make_ok {B : Base} (ok : BaseOk B) : FnOk B 14 (.ref 180) (fn1 wsV) := fn1_ok fun A F s v p q hA S r h Q E hQ => by
  obtain ⟨r1, e1, h⟩ := Option.bind_eq_some_iff.mp h
  have hs0 : s.heap.get? s.heap.objs.size = none := get_size _
  have hs1 : s.heap.get? (s.heap.objs.size + 1) = none := get_ge (Nat.le_succ _)
  have kk : ∀ b o, s.heap.get? b = some o → ((s.heap.push PySem.W.emptyDict).push (PySem.W.instObj 180 s.heap.objs.size)).get? b = some o := fun b o e => Heap.get?_push_of_some _ (Heap.get?_push_of_some _ e)
  have n₀ : Next B F s F { s with heap := (s.heap.push PySem.W.emptyDict).push (PySem.W.instObj 180 s.heap.objs.size) } := Next.keeps (t := s.toks) S kk
  have gx : ((s.heap.push PySem.W.emptyDict).push (PySem.W.instObj 180 s.heap.objs.size)).get? (s.heap.objs.size + 1) = some ⟨.ref wsCls, some s.heap.objs.size, .plain, #[]⟩ := by
    have : (s.heap.push PySem.W.emptyDict).objs.size = s.heap.objs.size + 1 := Heap.size_push ..
    rw [← this]; exact Heap.get?_push_size _ rfl
  have gd : ((s.heap.push PySem.W.emptyDict).push (PySem.W.instObj 180 s.heap.objs.size)).get? s.heap.objs.size = some PySem.W.emptyDict := Heap.get?_push_of_some _ (Heap.get?_push_size _ rfl)
  have X₀ : Mu F [[s.heap.objs.size + 1, s.heap.objs.size]] [.inst []] ((s.heap.push PySem.W.emptyDict).push (PySem.W.instObj 180 s.heap.objs.size)) := {
    len := rfl
    at' := fun i fp o h1 h2 => by
      match i, h1, h2 with
      | 0, h1, h2 =>
        cases h1; cases h2
        exact ⟨_, _, fun _ => none, rfl, S.none hs1, S.none hs0, gx, ⟨_, #[], 0, gd, rfl, fun e he => by simp at he, by simp, fun _ => rfl⟩, fun x => rfl⟩
    nodup := by simp
    notab := fun a ha => by
      simp only [List.flatten_cons, List.flatten_nil, List.append_nil, List.mem_cons, List.not_mem_nil, or_false] at ha
      rcases ha with rfl | rfl
      · exact S.notTab hs1
      · exact S.notTab hs0
    there := fun a ha => by
      simp only [List.flatten_cons, List.flatten_nil, List.append_nil, List.mem_cons, List.not_mem_nil, or_false] at ha
      rcases ha with rfl | rfl
      · exact ⟨_, gx⟩
      · exact ⟨_, gd⟩ }
  refine wpAny_call (PySem.W.make_core (rest := [v]) (kw := []) (init := .ref 135) (PySem.W.makes_of (fragIn ok S) (by rfl)) (PySem.W.looks_findIn (fragIn ok S) (by rfl)) (fun self => PySem.W.bind_fn (fragIn ok S) self (by rfl)) (.inl rfl) ?_)
  have hA' : AOk 11 (A.under (.builtin "type.__call__" ⟨.ref 180 :: [v], []⟩)) := by
    obtain ⟨w1, w2⟩ := tc_weight 180 [v]
    refine ⟨hA.handled, ?_, ?_⟩
    · have := hA.depth
      show A.depth + _ + 8 * 11 < recursionLimit
      omega
    · have := hA.units
      show A.units + _ + 100 * 11 < cLine
      omega
  refine clo_enterC (n := 10) (names := []) (xs := xs_init) (gs := gs_init) (sl := [.ref 0, .val p]) (np := 2) (Γr := List.replicate 7 .undef) (μ := [[s.heap.objs.size + 1, s.heap.objs.size]]) (σ := [.inst []]) (body := bodyOf 135) hA' ok.lim n₀.st X₀ (S.base _ _ (ok.frag 135 _ rfl)) rfl rfl rfl rfl
    (PySem.W.codeRec_of (fragIn ok n₀.st) (by rfl)) rfl rfl rfl init_nc (fun x k hm => (init_fs.knd x k hm).elim .inl fun q => by have := initKnd _ hm; rw [q.1] at this; cases this) init_fs.names init_fs.nodbg init_fs.glob rfl rfl rfl rfl (fun i x k hi hx => initKnd _ (List.mem_of_getElem? hx))
    (fun i p' e hp => ?_) (fun i x k p' hx hp hne => absurd (List.eq_of_mem_replicate (List.mem_of_getElem? hp)) hne) (fun x c e => by cases e) (fun x y c e => by cases e) (fun env s₁ hcells hL hno n₁ R₁ X₁ hA₁ => ?_)
  · match i, e with
    | 0, e => cases e; exact ⟨_, rfl, _, _, rfl, rfl⟩
    | 1, e => cases e; exact ⟨v, rfl, r⟩
  · refine (g_init.2 B ok) env _ F _ (startI p) [.inst []] s₁ r1 hA₁ n₁.st R₁ X₁ e1 _ _ fun fl s₂ F₂ μ₂ n₂ k => ?_
    obtain ⟨k1, R₂, X₂⟩ := k
    split at h
    · rename_i fs rest hfl hσ
      split at h
      · rename_i hne
        obtain ⟨qn, hq, rfl⟩ := Option.map_eq_some_iff.mp h
        rw [hfl] at k1
        cases fl <;> try exact k1.elim
        rw [hσ] at X₂
        obtain ⟨ν, hν⟩ := n₂.mu
        obtain ⟨a, d, m, ea, e2, e3, e4, e5, hx⟩ := X₂.at' 0 [s.heap.objs.size + 1, s.heap.objs.size] (.inst fs) (by rw [hν]; rfl) rfl
        cases ea
        obtain ⟨od, es, ep, q1, q2, q3, q4, q5⟩ := e5
        have vn := hx normChars
        rw [hq] at vn
        obtain ⟨w, w1, w2⟩ := vn
        have ve := hx equalChars
        rw [Option.isNone_iff_eq_none.mp hne] at ve
        have hxd : s.heap.objs.size ≠ s.heap.objs.size + 1 := Nat.ne_of_lt (Nat.lt_succ_self _)
        have f1 : (F₂.put (s.heap.objs.size + 1) ⟨.ref wsCls, some s.heap.objs.size, .plain, #[]⟩) s.heap.objs.size = none := by rw [Fz.put_ne hxd]; exact e3
        have le1 : F₂.le (F₂.put (s.heap.objs.size + 1) ⟨.ref wsCls, some s.heap.objs.size, .plain, #[]⟩) := Fz.le_put e2
        have le2 := Fz.le_put (o := od) f1
        have hO : ∀ b, Own env xs_init b → s.heap.get? b = none := fun b ho => by
          rcases ho with rfl | ⟨x, hm, _⟩
          · exact n₀.gone hL
          · exact absurd rfl (hno x _ hm)
        have N₂ : SNext B (fun _ => False) F [[s.heap.objs.size + 1, s.heap.objs.size]] s F₂ μ₂ s₂ := SNext.leave (n₀.trans n₁) n₂ hO
        have hm1 : ∀ b o, s.heap.get? b = some o → b ∉ ([[s.heap.objs.size + 1, s.heap.objs.size]] : Mus).flatten := fun b o e hm => by
          simp only [List.flatten_cons, List.flatten_nil, List.append_nil, List.mem_cons, List.not_mem_nil, or_false] at hm
          rcases hm with rfl | rfl
          · rw [hs1] at e; cases e
          · rw [hs0] at e; cases e
        have tx : s.heap.objs.size + 1 ∉ tabs := S.notTab hs1
        have td : s.heap.objs.size ∉ tabs := S.notTab hs0
        refine ⟨rfl, hQ _ s₂ ((F₂.put (s.heap.objs.size + 1) ⟨.ref wsCls, some s.heap.objs.size, .plain, #[]⟩).put s.heap.objs.size od) ⟨N₂.shape, Fz.le_trans N₂.ext (Fz.le_trans le1 le2), (N₂.st.put e4 e2 tx).put q1 f1 td, fun b o hb e => N₂.keep b o hb (fun h => h) (hm1 b o e) e, fun b o e => ?_⟩ ?_⟩
        · rcases Fz.put_of e with ⟨rfl, _⟩ | e
          · exact .inr hs0
          · rcases Fz.put_of e with ⟨rfl, _⟩ | e
            · exact .inr hs1
            · rcases N₂.new b o e with e | e | e
              · exact .inl e
              · exact .inr e
              · simp only [List.flatten_cons, List.flatten_nil, List.append_nil, List.mem_cons, List.not_mem_nil, or_false] at e
                rcases e with rfl | rfl
                · exact .inr hs1
                · exact .inr hs0
        · exact .ws (n := ep) (le2 _ _ Fz.put_self) Fz.put_self q2 q3 (by rw [q5]; exact w1) (by rw [q5]; exact ve) (w2.mono (Fz.le_trans le1 le2))
      · cases h
    · cases h
end Mine
/-! part 36 -/
namespace Mine
open PySem PySem.Calls PyProof.Rows
set_option maxHeartbeats 4000000
noncomputable def xs_law : Names := [(Str.ofString "script", .loc), (Str.ofString "numbers", .loc), (Str.ofString "dots", .own), (Str.ofString "hours", .own), (Str.ofString "turned", .loc), (Str.ofString "ends", .own), (Str.ofString "posts", .loc), (Str.ofString "here", .own), (Str.ofString "there", .loc), (Str.ofString "bound", .own), (Str.ofString "ways", .own), (Str.ofString "lead", .loc), (Str.ofString "plain", .own), (Str.ofString "framed", .loc), (Str.ofString "due", .loc), (Str.ofString "width", .loc), (Str.ofString "sizes", .loc), (Str.ofString "rows", .loc), (Str.ofString "clock", .loc), (Str.ofString "first", .loc), (Str.ofString "second", .loc), (Str.ofString "middle", .loc), (Str.ofString "whole", .loc), (Str.ofString "figures", .loc), (Str.ofString "like", .loc), (Str.ofString "behind", .loc), (Str.ofString "unit", .loc), (Str.ofString "own", .loc), (Str.ofString "other", .loc), (Str.ofString "ring", .own), (Str.ofString "image", .loc), (Str.ofString "three", .loc), (Str.ofString "later", .loc), (Str.ofString "told", .loc)]
noncomputable def gs_law : List Str := [Str.ofString "_law_numbers", Str.ofString "_law_posts", Str.ofString "range", Str.ofString "max", Str.ofString "_law_crowd", Str.ofString "sum", Str.ofString "_law_lead", Str.ofString "len", Str.ofString "_law_shares", Str.ofString "_digits2int", Str.ofString "_int2digits", Str.ofString "Whitespace", Str.ofString "tuple", Str.ofString "int_divmod", Str.ofString "min"]
noncomputable def walk_law : {g : S // ∀ (B : Base), BaseOk B → ExecL B 60 [(Str.ofString "script", .loc), (Str.ofString "numbers", .loc), (Str.ofString "dots", .own), (Str.ofString "hours", .own), (Str.ofString "turned", .loc), (Str.ofString "ends", .own), (Str.ofString "posts", .loc), (Str.ofString "here", .own), (Str.ofString "there", .loc), (Str.ofString "bound", .own), (Str.ofString "ways", .own), (Str.ofString "lead", .loc), (Str.ofString "plain", .own), (Str.ofString "framed", .loc), (Str.ofString "due", .loc), (Str.ofString "width", .loc), (Str.ofString "sizes", .loc), (Str.ofString "rows", .loc), (Str.ofString "clock", .loc), (Str.ofString "first", .loc), (Str.ofString "second", .loc), (Str.ofString "middle", .loc), (Str.ofString "whole", .loc), (Str.ofString "figures", .loc), (Str.ofString "like", .loc), (Str.ofString "behind", .loc), (Str.ofString "unit", .loc), (Str.ofString "own", .loc), (Str.ofString "other", .loc), (Str.ofString "ring", .own), (Str.ofString "image", .loc), (Str.ofString "three", .loc), (Str.ofString "later", .loc), (Str.ofString "told", .loc)] [Str.ofString "_law_numbers", Str.ofString "_law_posts", Str.ofString "range", Str.ofString "max", Str.ofString "_law_crowd", Str.ofString "sum", Str.ofString "_law_lead", Str.ofString "len", Str.ofString "_law_shares", Str.ofString "_digits2int", Str.ofString "_int2digits", Str.ofString "Whitespace", Str.ofString "tuple", Str.ofString "int_divmod", Str.ofString "min"] (bodyOf 216) g} := ⟨_, fun B ok => by
  show ExecL B 60 [(Str.ofString "script", .loc), (Str.ofString "numbers", .loc), (Str.ofString "dots", .own), (Str.ofString "hours", .own), (Str.ofString "turned", .loc), (Str.ofString "ends", .own), (Str.ofString "posts", .loc), (Str.ofString "here", .own), (Str.ofString "there", .loc), (Str.ofString "bound", .own), (Str.ofString "ways", .own), (Str.ofString "lead", .loc), (Str.ofString "plain", .own), (Str.ofString "framed", .loc), (Str.ofString "due", .loc), (Str.ofString "width", .loc), (Str.ofString "sizes", .loc), (Str.ofString "rows", .loc), (Str.ofString "clock", .loc), (Str.ofString "first", .loc), (Str.ofString "second", .loc), (Str.ofString "middle", .loc), (Str.ofString "whole", .loc), (Str.ofString "figures", .loc), (Str.ofString "like", .loc), (Str.ofString "behind", .loc), (Str.ofString "unit", .loc), (Str.ofString "own", .loc), (Str.ofString "other", .loc), (Str.ofString "ring", .own), (Str.ofString "image", .loc), (Str.ofString "three", .loc), (Str.ofString "later", .loc), (Str.ofString "told", .loc)] [Str.ofString "_law_numbers", Str.ofString "_law_posts", Str.ofString "range", Str.ofString "max", Str.ofString "_law_crowd", Str.ofString "sum", Str.ofString "_law_lead", Str.ofString "len", Str.ofString "_law_shares", Str.ofString "_digits2int", Str.ofString "_int2digits", Str.ofString "Whitespace", Str.ofString "tuple", Str.ofString "int_divmod", Str.ofString "min"] (bodyOf 216) _
  exact (X_cons (X_assign (i := 1) rfl (by decide) (E_call (List.mem_of_getElem? (i := 0) rfl) (g__law_numbers ok) (k__law_numbers ok) ((w_law_numbers.2 _ ok).up (by decide)) (A_cons (E_name (i := 0) rfl) A_nil)))
    (X_cons (X_assignC (i := 2) rfl (E_fresh (FL_c1 (ys := [(Str.ofString "x", .loc)]) (hs := []) (m := 1) (js := []) (i := 0) (cscope_of (by decide +kernel)) rfl (by decide) (It_list (E_fresh (FL_slice (N_val (E_name (i := 1) rfl)) P_none (P_some E_int)))) (E_bin add_ok (E_bin mod_ok (E_name (i := 0) rfl) E_int) E_int))))
    (X_cons (X_assignC (i := 3) rfl (E_fresh (FL_c1 (ys := [(Str.ofString "x", .loc)]) (hs := []) (m := 1) (js := []) (i := 0) (cscope_of (by decide +kernel)) rfl (by decide) (It_list (E_fresh (FL_slice (N_val (E_name (i := 1) rfl)) (P_some E_int) P_none))) (E_bin mod_ok (E_name (i := 0) rfl) E_int))))
    (X_cons (X_c1 (iy := 4) (ys := [(Str.ofString "hour", .loc), (Str.ofString "hours", .cap)]) (hs := [Str.ofString "min", Str.ofString "max"]) (m := 1) (js := [3]) (i := 0) (cscope_of (by decide +kernel)) rfl rfl (by decide) (It_list (E_name (i := 3) rfl)) (E_bin sub_ok (E_bin add_ok (E_call (List.mem_of_getElem? (i := 0) rfl) (g_min ok) Keep.builtin (now_ok min_now) (A_cons (E_name (i := 1) rfl) A_nil)) (E_call (List.mem_of_getElem? (i := 1) rfl) (g_max ok) Keep.builtin (now_ok max_now) (A_cons (E_name (i := 1) rfl) A_nil))) (E_name (i := 0) rfl)) rfl (by decide +kernel))
    (X_cons (X_assignC (i := 5) rfl (E_fresh (FL_c1 (ys := [(Str.ofString "x", .loc)]) (hs := []) (m := 1) (js := []) (i := 0) (cscope_of (by decide +kernel)) rfl (by decide) (It_list (E_fresh (FL_slice (N_val (E_name (i := 1) rfl)) P_none (P_some E_int)))) (E_itemN (N_fresh (FL_disp (A_cons (E_str (l := [10]) rfl) (A_cons (E_str (l := [13]) rfl) (A_cons (E_str (l := [13, 10]) rfl) A_nil))))) (E_bin mod_ok (E_bin fdiv_ok (E_name (i := 0) rfl) E_int) E_int)))))
    (X_cons (X_assign (i := 6) rfl (by decide) (E_call (List.mem_of_getElem? (i := 1) rfl) (g__law_posts ok) (k__law_posts ok) ((w_law_posts.2 _ ok).up (by decide)) (A_cons (E_meth PySem.F.plainAttrs_str PySem.F.slot_str_join PySem.F.type_str_join join_ok (E_str (l := []) rfl) (A_cons (E_fresh (FL_c1 (ys := [(Str.ofString "i", .loc), (Str.ofString "dots", .cap), (Str.ofString "ends", .cap)]) (hs := []) (m := 1) (js := [2, 5]) (i := 0) (cscope_of (by decide +kernel)) rfl (by decide) (It_range1 (List.mem_of_getElem? (i := 2) rfl) (g_range ok) E_int) (E_bin add_ok (E_bin mul_ok (E_str (l := [46]) rfl) (E_item (E_name (i := 1) rfl) (E_name (i := 0) rfl))) (E_item (E_name (i := 2) rfl) (E_name (i := 0) rfl))))) A_nil)) (A_cons (E_call (List.mem_of_getElem? (i := 3) rfl) (g_max ok) Keep.builtin (now_ok max_now) (A_cons (E_name (i := 3) rfl) A_nil)) A_nil))))
    (X_cons (X_if (T_cmp ne_ok (E_name (i := 6) rfl) (E_fresh (FL_c1 (ys := [(Str.ofString "hour", .own), (Str.ofString "dots", .cap)]) (hs := []) (m := 1) (js := [2]) (i := 0) (cscope_of (by decide +kernel)) rfl (by decide) (It_range1 (List.mem_of_getElem? (i := 2) rfl) (g_range ok) (E_bin add_ok (E_call (List.mem_of_getElem? (i := 3) rfl) (g_max ok) Keep.builtin (now_ok max_now) (A_cons (E_name (i := 3) rfl) A_nil)) E_int)) (E_meth PySem.F.plainAttrs_str PySem.F.slot_str_join PySem.F.type_str_join join_ok (E_str (l := []) rfl) (A_cons (E_fresh (FL_c1 (ys := [(Str.ofString "n", .loc), (Str.ofString "hour", .cap)]) (hs := []) (m := 1) (js := [0]) (i := 0) (cscope_of (by decide +kernel)) rfl (by decide) (It_list (E_name (i := 1) rfl)) (E_bin add_ok (E_bin mul_ok (E_str (l := [46]) rfl) (E_bin add_ok (E_name (i := 0) rfl) (E_name (i := 1) rfl))) (E_str (l := [13, 10]) rfl)))) A_nil))))) (X_cons (X_ret E_bool)
    X_nil) X_nil)
    (X_cons (X_assign (i := 7) rfl (by decide) (E_call (List.mem_of_getElem? (i := 4) rfl) (g__law_crowd ok) (k__law_crowd ok) ((w_law_crowd.2 _ ok).up (by decide)) (A_cons (E_name (i := 6) rfl) (A_cons (E_name (i := 3) rfl) A_nil))))
    (X_cons (X_assign (i := 8) rfl (by decide) (E_call (List.mem_of_getElem? (i := 4) rfl) (g__law_crowd ok) (k__law_crowd ok) ((w_law_crowd.2 _ ok).up (by decide)) (A_cons (E_name (i := 6) rfl) (A_cons (E_name (i := 4) rfl) A_nil))))
    (X_cons (X_assign (i := 9) rfl (by decide) (E_bin sub_ok (E_bin mod_ok (E_call (List.mem_of_getElem? (i := 5) rfl) (g_sum ok) Keep.builtin (now_ok sum_now) (A_cons (E_name (i := 1) rfl) A_nil)) E_int) E_int))
    (X_cons (X_assignC (i := 10) rfl (E_fresh (FL_c2 (ys := [(Str.ofString "i", .loc), (Str.ofString "k", .loc), (Str.ofString "here", .cap), (Str.ofString "bound", .cap)]) (hs := [Str.ofString "_levenshtein_distance", Str.ofString "range"]) (m := 2) (js := [7, 9]) (i := 0) (j := 1) (cscope_of (by decide +kernel)) rfl (by decide) rfl (by decide) (It_range1 (List.mem_of_getElem? (i := 2) rfl) (g_range ok) E_int) (It_range1 (List.mem_of_getElem? (i := 1) rfl) (g_range ok) (E_name (i := 0) rfl)) (E_call (List.mem_of_getElem? (i := 0) rfl) (g__levenshtein_distance ok) (k__levenshtein_distance ok) ((w_levenshtein_distance.2 _ ok).up (by decide)) (A_cons (E_item (E_name (i := 2) rfl) (E_name (i := 0) rfl)) (A_cons (E_item (E_name (i := 2) rfl) (E_name (i := 1) rfl)) (A_cons (E_name (i := 3) rfl) A_nil)))))))
    (X_cons (X_assign (i := 11) rfl (by decide) (E_call (List.mem_of_getElem? (i := 6) rfl) (g__law_lead ok) (k__law_lead ok) ((w_law_lead.2 _ ok).up (by decide)) (A_cons (E_fresh (FL_c1 (ys := [(Str.ofString "way", .loc)]) (hs := []) (m := 1) (js := []) (i := 0) (cscope_of (by decide +kernel)) rfl (by decide) (It_list (E_name (i := 10) rfl)) (E_bin fdiv_ok (E_name (i := 0) rfl) E_int))) A_nil)))
    (X_cons (X_if (T_cmp ne_ok (E_bin mul_ok E_int (E_meth PySem.F.plainAttrs_str PySem.F.slot_str_count PySem.F.type_str_count countS_ok (E_name (i := 11) rfl) (A_cons (E_str (l := [32]) rfl) A_nil))) (E_call (List.mem_of_getElem? (i := 5) rfl) (g_sum ok) Keep.builtin (now_ok sum_now) (A_cons (E_name (i := 10) rfl) A_nil))) (X_cons (X_ret E_bool)
    X_nil) X_nil)
    (X_cons (X_assign (i := 12) rfl (by decide) (E_call (List.mem_of_getElem? (i := 4) rfl) (g__law_crowd ok) (k__law_crowd ok) ((w_law_crowd.2 _ ok).up (by decide)) (A_cons (E_name (i := 6) rfl) (A_cons (E_fresh (FL_disp (A_cons E_int A_nil))) A_nil))))
    (X_cons (X_c2 (iy := 13) (ys := [(Str.ofString "i", .loc), (Str.ofString "k", .loc), (Str.ofString "plain", .cap), (Str.ofString "bound", .cap)]) (hs := [Str.ofString "_levenshtein_distance", Str.ofString "range"]) (m := 2) (js := [12, 9]) (i := 0) (j := 1) (cscope_of (by decide +kernel)) rfl rfl (by decide) rfl (by decide) (It_range1 (List.mem_of_getElem? (i := 2) rfl) (g_range ok) E_int) (It_range1 (List.mem_of_getElem? (i := 1) rfl) (g_range ok) (E_name (i := 0) rfl)) (E_call (List.mem_of_getElem? (i := 0) rfl) (g__levenshtein_distance ok) (k__levenshtein_distance ok) ((w_levenshtein_distance.2 _ ok).up (by decide)) (A_cons (E_bin add_ok (E_bin add_ok (E_str (l := [40]) rfl) (E_item (E_name (i := 2) rfl) (E_name (i := 0) rfl))) (E_str (l := [120]) rfl)) (A_cons (E_bin add_ok (E_bin add_ok (E_str (l := [91]) rfl) (E_item (E_name (i := 2) rfl) (E_name (i := 1) rfl))) (E_str (l := [88]) rfl)) (A_cons (E_name (i := 3) rfl) A_nil)))) rfl (by decide +kernel))
    (X_cons (X_c2 (iy := 14) (ys := [(Str.ofString "i", .loc), (Str.ofString "k", .loc), (Str.ofString "dots", .cap)]) (hs := [Str.ofString "abs", Str.ofString "range"]) (m := 2) (js := [2]) (i := 0) (j := 1) (cscope_of (by decide +kernel)) rfl rfl (by decide) rfl (by decide) (It_range1 (List.mem_of_getElem? (i := 2) rfl) (g_range ok) E_int) (It_range1 (List.mem_of_getElem? (i := 1) rfl) (g_range ok) (E_name (i := 0) rfl)) (E_bin add_ok E_int (E_bin mul_ok E_int (E_call (List.mem_of_getElem? (i := 0) rfl) (g_abs ok) Keep.builtin abs_ok (A_cons (E_bin sub_ok (E_item (E_name (i := 2) rfl) (E_name (i := 0) rfl)) (E_item (E_name (i := 2) rfl) (E_name (i := 1) rfl))) A_nil)))) rfl (by decide +kernel))
    (X_cons (X_if (T_cmp ne_ok (E_fresh (FL_c1 (ys := [(Str.ofString "way", .loc), (Str.ofString "bound", .cap)]) (hs := [Str.ofString "min"]) (m := 1) (js := [9]) (i := 0) (cscope_of (by decide +kernel)) rfl (by decide) (It_list (E_name (i := 13) rfl)) (E_call (List.mem_of_getElem? (i := 0) rfl) (g_min ok) Keep.builtin min2_ok (A_cons (E_name (i := 0) rfl) (A_cons (E_bin add_ok (E_name (i := 1) rfl) E_int) A_nil))))) (E_fresh (FL_c1 (ys := [(Str.ofString "way", .loc), (Str.ofString "bound", .cap)]) (hs := [Str.ofString "min"]) (m := 1) (js := [9]) (i := 0) (cscope_of (by decide +kernel)) rfl (by decide) (It_list (E_name (i := 14) rfl)) (E_call (List.mem_of_getElem? (i := 0) rfl) (g_min ok) Keep.builtin min2_ok (A_cons (E_name (i := 0) rfl) (A_cons (E_bin add_ok (E_name (i := 1) rfl) E_int) A_nil)))))) (X_cons (X_ret E_bool)
    X_nil) X_nil)
    (X_cons (X_assign (i := 15) rfl (by decide) (E_bin add_ok E_int (E_bin mod_ok (E_call (List.mem_of_getElem? (i := 7) rfl) (g_len ok) Keep.builtin len_ok (A_cons (E_name (i := 0) rfl) A_nil)) E_int)))
    (X_cons (X_c1 (iy := 16) (ys := [(Str.ofString "row", .loc)]) (hs := [Str.ofString "len"]) (m := 1) (js := []) (i := 0) (cscope_of (by decide +kernel)) rfl rfl (by decide) (It_list (E_name (i := 7) rfl)) (E_call (List.mem_of_getElem? (i := 0) rfl) (g_len ok) Keep.builtin len_ok (A_cons (E_name (i := 0) rfl) A_nil)) rfl (by decide +kernel))
    (X_cons (X_assign (i := 17) rfl (by decide) (E_call (List.mem_of_getElem? (i := 8) rfl) (g__law_shares ok) (k__law_shares ok) ((w_law_shares.2 _ ok).up (by decide)) (A_cons (E_name (i := 2) rfl) A_nil)))
    (X_cons (X_assign (i := 18) rfl (by decide) (E_call (List.mem_of_getElem? (i := 8) rfl) (g__law_shares ok) (k__law_shares ok) ((w_law_shares.2 _ ok).up (by decide)) (A_cons (E_name (i := 3) rfl) A_nil)))
    (X_cons (X_assign (i := 19) rfl (by decide) (E_call (List.mem_of_getElem? (i := 8) rfl) (g__law_shares ok) (k__law_shares ok) ((w_law_shares.2 _ ok).up (by decide)) (A_cons (E_name (i := 16) rfl) A_nil)))
    (X_cons (X_assign (i := 20) rfl (by decide) (E_call (List.mem_of_getElem? (i := 8) rfl) (g__law_shares ok) (k__law_shares ok) ((w_law_shares.2 _ ok).up (by decide)) (A_cons (E_fresh (FL_c1 (ys := [(Str.ofString "row", .loc)]) (hs := [Str.ofString "len"]) (m := 1) (js := []) (i := 0) (cscope_of (by decide +kernel)) rfl (by decide) (It_list (E_name (i := 8) rfl)) (E_call (List.mem_of_getElem? (i := 0) rfl) (g_len ok) Keep.builtin len_ok (A_cons (E_name (i := 0) rfl) A_nil)))) A_nil)))
    (X_cons (X_assign (i := 21) rfl (by decide) (E_bin sub_ok (E_call (List.mem_of_getElem? (i := 7) rfl) (g_len ok) Keep.builtin len_ok (A_cons (E_name (i := 20) rfl) A_nil)) E_int))
    (X_cons (X_assign (i := 22) rfl (by decide) (E_call (List.mem_of_getElem? (i := 9) rfl) (g__digits2int ok) (k__digits2int ok) ((d2i_ok ok).up (by decide)) (A_cons (E_name (i := 20) rfl) (A_cons (E_name (i := 15) rfl) A_nil))))
    (X_cons (X_assign (i := 23) rfl (by decide) (E_call (List.mem_of_getElem? (i := 10) rfl) (g__int2digits ok) (k__int2digits ok) ((i2d_ok ok).up (by decide)) (A_cons (E_bin mul_ok (E_name (i := 22) rfl) (E_call (List.mem_of_getElem? (i := 9) rfl) (g__digits2int ok) (k__digits2int ok) ((d2i_ok ok).up (by decide)) (A_cons (E_fresh (FL_rev (N_val (E_name (i := 20) rfl)) (E_un neg_ok E_int))) (A_cons (E_name (i := 15) rfl) A_nil)))) (A_cons (E_name (i := 15) rfl) A_nil))))
    (X_cons (X_assign (i := 24) rfl (by decide) (E_bin fdiv_ok (E_bin sub_ok (E_item (E_name (i := 23) rfl) (E_name (i := 21) rfl)) E_int) E_int))
    (X_cons (X_assign (i := 25) rfl (by decide) (E_fresh (FL_slice (N_val (E_name (i := 23) rfl)) (P_some (E_bin add_ok (E_name (i := 21) rfl) E_int)) P_none)))
    (X_cons (X_if (T_cmp ne_ok (E_name (i := 23) rfl) (E_fresh (FL_add (N_fresh (FL_add (N_fresh (FL_rev (N_val (E_name (i := 25) rfl)) (E_un neg_ok E_int))) (N_fresh (FL_disp (A_cons (E_bin add_ok E_int (E_bin mul_ok E_int (E_name (i := 24) rfl))) A_nil))))) (N_val (E_name (i := 25) rfl))))) (X_cons (X_ret E_bool)
    X_nil) X_nil)
    (X_cons (X_if (T_cmp ne_ok (E_norm ok (E_call (List.mem_of_getElem? (i := 11) rfl) (g_Whitespace ok) (k_Whitespace ok) ((make_ok ok).up (by decide)) (A_cons (E_name (i := 11) rfl) A_nil))) (E_tup (A_cons (E_call1 (List.mem_of_getElem? (i := 12) rfl) (g_tuple ok) Keep.type tuple_now (N_fresh (FL_add (N_fresh (FL_disp (A_cons (E_name (i := 24) rfl) A_nil))) (N_val (E_name (i := 25) rfl))))) (A_cons E_int A_nil)))) (X_cons (X_ret E_bool)
    X_nil) X_nil)
    (X_cons (X_assign (i := 26) rfl (by decide) (E_call (List.mem_of_getElem? (i := 9) rfl) (g__digits2int ok) (k__digits2int ok) ((d2i_ok ok).up (by decide)) (A_cons (E_name (i := 17) rfl) (A_cons (E_name (i := 15) rfl) A_nil))))
    (X_cons (X_if (T_cmp ne_ok (E_call (List.mem_of_getElem? (i := 13) rfl) (g_int_divmod ok) (k_int_divmod ok) ((w_divB.2 _ ok).up (by decide)) (A_cons (E_call (List.mem_of_getElem? (i := 9) rfl) (g__digits2int ok) (k__digits2int ok) ((d2i_ok ok).up (by decide)) (A_cons (E_name (i := 19) rfl) (A_cons (E_name (i := 15) rfl) A_nil))) (A_cons (E_call (List.mem_of_getElem? (i := 9) rfl) (g__digits2int ok) (k__digits2int ok) ((d2i_ok ok).up (by decide)) (A_cons (E_name (i := 18) rfl) (A_cons (E_name (i := 15) rfl) A_nil))) A_nil))) (E_tup (A_cons (E_name (i := 26) rfl) (A_cons E_int A_nil)))) (X_cons (X_ret E_bool)
    X_nil) X_nil)
    (X_cons (X_if (T_cmp ne_ok (E_call (List.mem_of_getElem? (i := 13) rfl) (g_int_divmod ok) (k_int_divmod ok) ((w_divB.2 _ ok).up (by decide)) (A_cons (E_un neg_ok (E_name (i := 22) rfl)) (A_cons (E_call (List.mem_of_getElem? (i := 9) rfl) (g__digits2int ok) (k__digits2int ok) ((d2i_ok ok).up (by decide)) (A_cons (E_fresh (FL_rev (N_val (E_name (i := 18) rfl)) (E_un neg_ok E_int))) (A_cons (E_name (i := 15) rfl) A_nil))) A_nil))) (E_tup (A_cons (E_un neg_ok (E_name (i := 26) rfl)) (A_cons E_int A_nil)))) (X_cons (X_ret E_bool)
    X_nil) X_nil)
    (X_cons (X_assign (i := 27) rfl (by decide) (E_call (List.mem_of_getElem? (i := 11) rfl) (g_Whitespace ok) (k_Whitespace ok) ((make_ok ok).up (by decide)) (A_cons (E_call (List.mem_of_getElem? (i := 6) rfl) (g__law_lead ok) (k__law_lead ok) ((w_law_lead.2 _ ok).up (by decide)) (A_cons (E_name (i := 16) rfl) A_nil)) A_nil)))
    (X_cons (X_assign (i := 28) rfl (by decide) (E_call (List.mem_of_getElem? (i := 11) rfl) (g_Whitespace ok) (k_Whitespace ok) ((make_ok ok).up (by decide)) (A_cons (E_call (List.mem_of_getElem? (i := 6) rfl) (g__law_lead ok) (k__law_lead ok) ((w_law_lead.2 _ ok).up (by decide)) (A_cons (E_fresh (FL_c1 (ys := [(Str.ofString "row", .loc)]) (hs := [Str.ofString "len"]) (m := 1) (js := []) (i := 0) (cscope_of (by decide +kernel)) rfl (by decide) (It_list (E_name (i := 8) rfl)) (E_call (List.mem_of_getElem? (i := 0) rfl) (g_len ok) Keep.builtin len_ok (A_cons (E_name (i := 0) rfl) A_nil)))) A_nil)) A_nil)))
    (X_cons (X_assign (i := 29) rfl (by decide) (E_bin add_ok (E_call (List.mem_of_getElem? (i := 14) rfl) (g_min ok) Keep.builtin (now_ok min_now) (A_cons (E_name (i := 16) rfl) A_nil)) (E_call (List.mem_of_getElem? (i := 3) rfl) (g_max ok) Keep.builtin (now_ok max_now) (A_cons (E_name (i := 16) rfl) A_nil))))
    (X_cons (X_assign (i := 30) rfl (by decide) (E_call (List.mem_of_getElem? (i := 11) rfl) (g_Whitespace ok) (k_Whitespace ok) ((make_ok ok).up (by decide)) (A_cons (E_call (List.mem_of_getElem? (i := 6) rfl) (g__law_lead ok) (k__law_lead ok) ((w_law_lead.2 _ ok).up (by decide)) (A_cons (E_fresh (FL_c1 (ys := [(Str.ofString "size", .loc), (Str.ofString "ring", .cap)]) (hs := []) (m := 1) (js := [29]) (i := 0) (cscope_of (by decide +kernel)) rfl (by decide) (It_list (E_name (i := 16) rfl)) (E_bin sub_ok (E_name (i := 1) rfl) (E_name (i := 0) rfl)))) A_nil)) A_nil)))
    (X_cons (X_assign (i := 31) rfl (by decide) (E_call (List.mem_of_getElem? (i := 11) rfl) (g_Whitespace ok) (k_Whitespace ok) ((make_ok ok).up (by decide)) (A_cons (E_call (List.mem_of_getElem? (i := 6) rfl) (g__law_lead ok) (k__law_lead ok) ((w_law_lead.2 _ ok).up (by decide)) (A_cons (E_fresh (FL_c1 (ys := [(Str.ofString "way", .loc)]) (hs := []) (m := 1) (js := []) (i := 0) (cscope_of (by decide +kernel)) rfl (by decide) (It_list (E_fresh (FL_slice (N_val (E_name (i := 10) rfl)) P_none (P_some E_int)))) (E_bin fdiv_ok (E_name (i := 0) rfl) E_int))) A_nil)) A_nil)))
    (X_cons (X_assign (i := 32) rfl (by decide) (E_call (List.mem_of_getElem? (i := 11) rfl) (g_Whitespace ok) (k_Whitespace ok) ((make_ok ok).up (by decide)) (A_cons (E_call (List.mem_of_getElem? (i := 6) rfl) (g__law_lead ok) (k__law_lead ok) ((w_law_lead.2 _ ok).up (by decide)) (A_cons (E_fresh (FL_c1 (ys := [(Str.ofString "k", .loc), (Str.ofString "ways", .cap)]) (hs := []) (m := 1) (js := [10]) (i := 0) (cscope_of (by decide +kernel)) rfl (by decide) (It_list (E_fresh (FL_disp (A_cons E_int (A_cons E_int (A_cons E_int A_nil)))))) (E_bin fdiv_ok (E_item (E_name (i := 1) rfl) (E_name (i := 0) rfl)) E_int))) A_nil)) A_nil)))
    (X_cons (X_assign (i := 33) rfl (by decide) (E_fresh (FL_disp (A_cons (E_equal ok ((equal_ok ok).up (by decide)) (E_name (i := 27) rfl) (A_cons (E_name (i := 28) rfl) A_nil)) (A_cons (E_equal ok ((equal_ok ok).up (by decide)) (E_name (i := 30) rfl) (A_cons (E_name (i := 28) rfl) A_nil)) (A_cons (E_equal ok ((equal_ok ok).up (by decide)) (E_name (i := 31) rfl) (A_cons (E_name (i := 32) rfl) A_nil)) A_nil))))))
    (X_cons (X_if (T_cmp ne_ok (E_fresh (FL_cif (ys := [(Str.ofString "answer", .loc)]) (hs := [Str.ofString "isinstance", Str.ofString "bool"]) (m := 1) (js := []) (i := 0) (cscope_of (by decide +kernel)) rfl (by decide) (It_list (E_name (i := 33) rfl)) (T_not (T_val (E_isbool (List.mem_of_getElem? (i := 0) rfl) (g_isinstance ok) (List.mem_of_getElem? (i := 1) rfl) (g_bool ok) (E_name (i := 0) rfl)))) (E_name (i := 0) rfl))) (E_fresh (FL_disp A_nil))) (X_cons (X_ret E_bool)
    X_nil) X_nil)
    (X_cons (X_ret (E_cmp eq_ok (E_name (i := 33) rfl) (E_fresh (FL_disp (A_cons (E_cmp eq_ok (E_name (i := 18) rfl) (E_fresh (FL_rev (N_val (E_name (i := 18) rfl)) (E_un neg_ok E_int)))) (A_cons (E_cmp eq_ok (E_name (i := 17) rfl) (E_fresh (FL_rev (N_val (E_name (i := 17) rfl)) (E_un neg_ok E_int)))) (A_cons (E_or (E_cmp eq_ok (E_name (i := 17) rfl) (E_name (i := 18) rfl)) (E_cmp eq_ok (E_name (i := 17) rfl) (E_fresh (FL_rev (N_val (E_name (i := 18) rfl)) (E_un neg_ok E_int))))) A_nil)))))))
    X_nil))))))))))))))))))))))))))))))))))))))))))⟩
end Mine
/-! part 37 -/
namespace Mine
open PySem PySem.Calls PyProof.Rows
noncomputable def dots (n : Nat) : List Nat := List.replicate n 46
theorem p_lf_1 (ys : List Nat) : ∀ xs : List Nat, xs.length ≤ 12 → findP code2 (xs ++ (46 :: 10 :: ys)) xs.length false = some (some (xs.length + 1, xs.length + 1 + 1))
  | [], _ => (by kernel_rfl : findP code2 ([] ++ (46 :: 10 :: ys)) 0 false = some (some (1, 2)))
  | [x0], _ => (by kernel_rfl : findP code2 ([x0] ++ (46 :: 10 :: ys)) 1 false = some (some (2, 3)))
  | [x0, x1], _ => (by kernel_rfl : findP code2 ([x0, x1] ++ (46 :: 10 :: ys)) 2 false = some (some (3, 4)))
  | [x0, x1, x2], _ => (by kernel_rfl : findP code2 ([x0, x1, x2] ++ (46 :: 10 :: ys)) 3 false = some (some (4, 5)))
  | [x0, x1, x2, x3], _ => (by kernel_rfl : findP code2 ([x0, x1, x2, x3] ++ (46 :: 10 :: ys)) 4 false = some (some (5, 6)))
  | [x0, x1, x2, x3, x4], _ => (by kernel_rfl : findP code2 ([x0, x1, x2, x3, x4] ++ (46 :: 10 :: ys)) 5 false = some (some (6, 7)))
  | [x0, x1, x2, x3, x4, x5], _ => (by kernel_rfl : findP code2 ([x0, x1, x2, x3, x4, x5] ++ (46 :: 10 :: ys)) 6 false = some (some (7, 8)))
  | [x0, x1, x2, x3, x4, x5, x6], _ => (by kernel_rfl : findP code2 ([x0, x1, x2, x3, x4, x5, x6] ++ (46 :: 10 :: ys)) 7 false = some (some (8, 9)))
  | [x0, x1, x2, x3, x4, x5, x6, x7], _ => (by kernel_rfl : findP code2 ([x0, x1, x2, x3, x4, x5, x6, x7] ++ (46 :: 10 :: ys)) 8 false = some (some (9, 10)))
  | [x0, x1, x2, x3, x4, x5, x6, x7, x8], _ => (by kernel_rfl : findP code2 ([x0, x1, x2, x3, x4, x5, x6, x7, x8] ++ (46 :: 10 :: ys)) 9 false = some (some (10, 11)))
  | [x0, x1, x2, x3, x4, x5, x6, x7, x8, x9], _ => (by kernel_rfl : findP code2 ([x0, x1, x2, x3, x4, x5, x6, x7, x8, x9] ++ (46 :: 10 :: ys)) 10 false = some (some (11, 12)))
  | [x0, x1, x2, x3, x4, x5, x6, x7, x8, x9, x10], _ => (by kernel_rfl : findP code2 ([x0, x1, x2, x3, x4, x5, x6, x7, x8, x9, x10] ++ (46 :: 10 :: ys)) 11 false = some (some (12, 13)))
  | [x0, x1, x2, x3, x4, x5, x6, x7, x8, x9, x10, x11], _ => (by kernel_rfl : findP code2 ([x0, x1, x2, x3, x4, x5, x6, x7, x8, x9, x10, x11] ++ (46 :: 10 :: ys)) 12 false = some (some (13, 14)))
  | _ :: _ :: _ :: _ :: _ :: _ :: _ :: _ :: _ :: _ :: _ :: _ :: _ :: _, h => absurd h (by simp only [List.length_cons]; (first | lia | omega))
theorem p_lf_2 (ys : List Nat) : ∀ xs : List Nat, xs.length ≤ 12 → findP code2 (xs ++ (46 :: 46 :: 10 :: ys)) xs.length false = some (some (xs.length + 2, xs.length + 2 + 1))
  | [], _ => (by kernel_rfl : findP code2 ([] ++ (46 :: 46 :: 10 :: ys)) 0 false = some (some (2, 3)))
  | [x0], _ => (by kernel_rfl : findP code2 ([x0] ++ (46 :: 46 :: 10 :: ys)) 1 false = some (some (3, 4)))
  | [x0, x1], _ => (by kernel_rfl : findP code2 ([x0, x1] ++ (46 :: 46 :: 10 :: ys)) 2 false = some (some (4, 5)))
  | [x0, x1, x2], _ => (by kernel_rfl : findP code2 ([x0, x1, x2] ++ (46 :: 46 :: 10 :: ys)) 3 false = some (some (5, 6)))
  | [x0, x1, x2, x3], _ => (by kernel_rfl : findP code2 ([x0, x1, x2, x3] ++ (46 :: 46 :: 10 :: ys)) 4 false = some (some (6, 7)))
  | [x0, x1, x2, x3, x4], _ => (by kernel_rfl : findP code2 ([x0, x1, x2, x3, x4] ++ (46 :: 46 :: 10 :: ys)) 5 false = some (some (7, 8)))
  | [x0, x1, x2, x3, x4, x5], _ => (by kernel_rfl : findP code2 ([x0, x1, x2, x3, x4, x5] ++ (46 :: 46 :: 10 :: ys)) 6 false = some (some (8, 9)))
  | [x0, x1, x2, x3, x4, x5, x6], _ => (by kernel_rfl : findP code2 ([x0, x1, x2, x3, x4, x5, x6] ++ (46 :: 46 :: 10 :: ys)) 7 false = some (some (9, 10)))
  | [x0, x1, x2, x3, x4, x5, x6, x7], _ => (by kernel_rfl : findP code2 ([x0, x1, x2, x3, x4, x5, x6, x7] ++ (46 :: 46 :: 10 :: ys)) 8 false = some (some (10, 11)))
  | [x0, x1, x2, x3, x4, x5, x6, x7, x8], _ => (by kernel_rfl : findP code2 ([x0, x1, x2, x3, x4, x5, x6, x7, x8] ++ (46 :: 46 :: 10 :: ys)) 9 false = some (some (11, 12)))
  | [x0, x1, x2, x3, x4, x5, x6, x7, x8, x9], _ => (by kernel_rfl : findP code2 ([x0, x1, x2, x3, x4, x5, x6, x7, x8, x9] ++ (46 :: 46 :: 10 :: ys)) 10 false = some (some (12, 13)))
  | [x0, x1, x2, x3, x4, x5, x6, x7, x8, x9, x10], _ => (by kernel_rfl : findP code2 ([x0, x1, x2, x3, x4, x5, x6, x7, x8, x9, x10] ++ (46 :: 46 :: 10 :: ys)) 11 false = some (some (13, 14)))
  | [x0, x1, x2, x3, x4, x5, x6, x7, x8, x9, x10, x11], _ => (by kernel_rfl : findP code2 ([x0, x1, x2, x3, x4, x5, x6, x7, x8, x9, x10, x11] ++ (46 :: 46 :: 10 :: ys)) 12 false = some (some (14, 15)))
  | _ :: _ :: _ :: _ :: _ :: _ :: _ :: _ :: _ :: _ :: _ :: _ :: _ :: _, h => absurd h (by simp only [List.length_cons]; (first | lia | omega))
theorem p_lf_3 (ys : List Nat) : ∀ xs : List Nat, xs.length ≤ 12 → findP code2 (xs ++ (46 :: 46 :: 46 :: 10 :: ys)) xs.length false = some (some (xs.length + 3, xs.length + 3 + 1))
  | [], _ => (by kernel_rfl : findP code2 ([] ++ (46 :: 46 :: 46 :: 10 :: ys)) 0 false = some (some (3, 4)))
  | [x0], _ => (by kernel_rfl : findP code2 ([x0] ++ (46 :: 46 :: 46 :: 10 :: ys)) 1 false = some (some (4, 5)))
  | [x0, x1], _ => (by kernel_rfl : findP code2 ([x0, x1] ++ (46 :: 46 :: 46 :: 10 :: ys)) 2 false = some (some (5, 6)))
  | [x0, x1, x2], _ => (by kernel_rfl : findP code2 ([x0, x1, x2] ++ (46 :: 46 :: 46 :: 10 :: ys)) 3 false = some (some (6, 7)))
  | [x0, x1, x2, x3], _ => (by kernel_rfl : findP code2 ([x0, x1, x2, x3] ++ (46 :: 46 :: 46 :: 10 :: ys)) 4 false = some (some (7, 8)))
  | [x0, x1, x2, x3, x4], _ => (by kernel_rfl : findP code2 ([x0, x1, x2, x3, x4] ++ (46 :: 46 :: 46 :: 10 :: ys)) 5 false = some (some (8, 9)))
  | [x0, x1, x2, x3, x4, x5], _ => (by kernel_rfl : findP code2 ([x0, x1, x2, x3, x4, x5] ++ (46 :: 46 :: 46 :: 10 :: ys)) 6 false = some (some (9, 10)))
  | [x0, x1, x2, x3, x4, x5, x6], _ => (by kernel_rfl : findP code2 ([x0, x1, x2, x3, x4, x5, x6] ++ (46 :: 46 :: 46 :: 10 :: ys)) 7 false = some (some (10, 11)))
  | [x0, x1, x2, x3, x4, x5, x6, x7], _ => (by kernel_rfl : findP code2 ([x0, x1, x2, x3, x4, x5, x6, x7] ++ (46 :: 46 :: 46 :: 10 :: ys)) 8 false = some (some (11, 12)))
  | [x0, x1, x2, x3, x4, x5, x6, x7, x8], _ => (by kernel_rfl : findP code2 ([x0, x1, x2, x3, x4, x5, x6, x7, x8] ++ (46 :: 46 :: 46 :: 10 :: ys)) 9 false = some (some (12, 13)))
  | [x0, x1, x2, x3, x4, x5, x6, x7, x8, x9], _ => (by kernel_rfl : findP code2 ([x0, x1, x2, x3, x4, x5, x6, x7, x8, x9] ++ (46 :: 46 :: 46 :: 10 :: ys)) 10 false = some (some (13, 14)))
  | [x0, x1, x2, x3, x4, x5, x6, x7, x8, x9, x10], _ => (by kernel_rfl : findP code2 ([x0, x1, x2, x3, x4, x5, x6, x7, x8, x9, x10] ++ (46 :: 46 :: 46 :: 10 :: ys)) 11 false = some (some (14, 15)))
  | [x0, x1, x2, x3, x4, x5, x6, x7, x8, x9, x10, x11], _ => (by kernel_rfl : findP code2 ([x0, x1, x2, x3, x4, x5, x6, x7, x8, x9, x10, x11] ++ (46 :: 46 :: 46 :: 10 :: ys)) 12 false = some (some (15, 16)))
  | _ :: _ :: _ :: _ :: _ :: _ :: _ :: _ :: _ :: _ :: _ :: _ :: _ :: _, h => absurd h (by simp only [List.length_cons]; (first | lia | omega))
theorem p_lf_4 (ys : List Nat) : ∀ xs : List Nat, xs.length ≤ 12 → findP code2 (xs ++ (46 :: 46 :: 46 :: 46 :: 10 :: ys)) xs.length false = some (some (xs.length + 4, xs.length + 4 + 1))
  | [], _ => (by kernel_rfl : findP code2 ([] ++ (46 :: 46 :: 46 :: 46 :: 10 :: ys)) 0 false = some (some (4, 5)))
  | [x0], _ => (by kernel_rfl : findP code2 ([x0] ++ (46 :: 46 :: 46 :: 46 :: 10 :: ys)) 1 false = some (some (5, 6)))
  | [x0, x1], _ => (by kernel_rfl : findP code2 ([x0, x1] ++ (46 :: 46 :: 46 :: 46 :: 10 :: ys)) 2 false = some (some (6, 7)))
  | [x0, x1, x2], _ => (by kernel_rfl : findP code2 ([x0, x1, x2] ++ (46 :: 46 :: 46 :: 46 :: 10 :: ys)) 3 false = some (some (7, 8)))
  | [x0, x1, x2, x3], _ => (by kernel_rfl : findP code2 ([x0, x1, x2, x3] ++ (46 :: 46 :: 46 :: 46 :: 10 :: ys)) 4 false = some (some (8, 9)))
  | [x0, x1, x2, x3, x4], _ => (by kernel_rfl : findP code2 ([x0, x1, x2, x3, x4] ++ (46 :: 46 :: 46 :: 46 :: 10 :: ys)) 5 false = some (some (9, 10)))
  | [x0, x1, x2, x3, x4, x5], _ => (by kernel_rfl : findP code2 ([x0, x1, x2, x3, x4, x5] ++ (46 :: 46 :: 46 :: 46 :: 10 :: ys)) 6 false = some (some (10, 11)))
  | [x0, x1, x2, x3, x4, x5, x6], _ => (by kernel_rfl : findP code2 ([x0, x1, x2, x3, x4, x5, x6] ++ (46 :: 46 :: 46 :: 46 :: 10 :: ys)) 7 false = some (some (11, 12)))
  | [x0, x1, x2, x3, x4, x5, x6, x7], _ => (by kernel_rfl : findP code2 ([x0, x1, x2, x3, x4, x5, x6, x7] ++ (46 :: 46 :: 46 :: 46 :: 10 :: ys)) 8 false = some (some (12, 13)))
  | [x0, x1, x2, x3, x4, x5, x6, x7, x8], _ => (by kernel_rfl : findP code2 ([x0, x1, x2, x3, x4, x5, x6, x7, x8] ++ (46 :: 46 :: 46 :: 46 :: 10 :: ys)) 9 false = some (some (13, 14)))
  | [x0, x1, x2, x3, x4, x5, x6, x7, x8, x9], _ => (by kernel_rfl : findP code2 ([x0, x1, x2, x3, x4, x5, x6, x7, x8, x9] ++ (46 :: 46 :: 46 :: 46 :: 10 :: ys)) 10 false = some (some (14, 15)))
  | [x0, x1, x2, x3, x4, x5, x6, x7, x8, x9, x10], _ => (by kernel_rfl : findP code2 ([x0, x1, x2, x3, x4, x5, x6, x7, x8, x9, x10] ++ (46 :: 46 :: 46 :: 46 :: 10 :: ys)) 11 false = some (some (15, 16)))
  | [x0, x1, x2, x3, x4, x5, x6, x7, x8, x9, x10, x11], _ => (by kernel_rfl : findP code2 ([x0, x1, x2, x3, x4, x5, x6, x7, x8, x9, x10, x11] ++ (46 :: 46 :: 46 :: 46 :: 10 :: ys)) 12 false = some (some (16, 17)))
  | _ :: _ :: _ :: _ :: _ :: _ :: _ :: _ :: _ :: _ :: _ :: _ :: _ :: _, h => absurd h (by simp only [List.length_cons]; (first | lia | omega))
theorem p_crlf_1 (ys : List Nat) : ∀ xs : List Nat, xs.length ≤ 16 → findP code2 (xs ++ (46 :: 13 :: 10 :: ys)) xs.length false = some (some (xs.length + 1, xs.length + 1 + 2))
  | [], _ => (by kernel_rfl : findP code2 ([] ++ (46 :: 13 :: 10 :: ys)) 0 false = some (some (1, 3)))
  | [x0], _ => (by kernel_rfl : findP code2 ([x0] ++ (46 :: 13 :: 10 :: ys)) 1 false = some (some (2, 4)))
  | [x0, x1], _ => (by kernel_rfl : findP code2 ([x0, x1] ++ (46 :: 13 :: 10 :: ys)) 2 false = some (some (3, 5)))
  | [x0, x1, x2], _ => (by kernel_rfl : findP code2 ([x0, x1, x2] ++ (46 :: 13 :: 10 :: ys)) 3 false = some (some (4, 6)))
  | [x0, x1, x2, x3], _ => (by kernel_rfl : findP code2 ([x0, x1, x2, x3] ++ (46 :: 13 :: 10 :: ys)) 4 false = some (some (5, 7)))
  | [x0, x1, x2, x3, x4], _ => (by kernel_rfl : findP code2 ([x0, x1, x2, x3, x4] ++ (46 :: 13 :: 10 :: ys)) 5 false = some (some (6, 8)))
  | [x0, x1, x2, x3, x4, x5], _ => (by kernel_rfl : findP code2 ([x0, x1, x2, x3, x4, x5] ++ (46 :: 13 :: 10 :: ys)) 6 false = some (some (7, 9)))
  | [x0, x1, x2, x3, x4, x5, x6], _ => (by kernel_rfl : findP code2 ([x0, x1, x2, x3, x4, x5, x6] ++ (46 :: 13 :: 10 :: ys)) 7 false = some (some (8, 10)))
  | [x0, x1, x2, x3, x4, x5, x6, x7], _ => (by kernel_rfl : findP code2 ([x0, x1, x2, x3, x4, x5, x6, x7] ++ (46 :: 13 :: 10 :: ys)) 8 false = some (some (9, 11)))
  | [x0, x1, x2, x3, x4, x5, x6, x7, x8], _ => (by kernel_rfl : findP code2 ([x0, x1, x2, x3, x4, x5, x6, x7, x8] ++ (46 :: 13 :: 10 :: ys)) 9 false = some (some (10, 12)))
  | [x0, x1, x2, x3, x4, x5, x6, x7, x8, x9], _ => (by kernel_rfl : findP code2 ([x0, x1, x2, x3, x4, x5, x6, x7, x8, x9] ++ (46 :: 13 :: 10 :: ys)) 10 false = some (some (11, 13)))
  | [x0, x1, x2, x3, x4, x5, x6, x7, x8, x9, x10], _ => (by kernel_rfl : findP code2 ([x0, x1, x2, x3, x4, x5, x6, x7, x8, x9, x10] ++ (46 :: 13 :: 10 :: ys)) 11 false = some (some (12, 14)))
  | [x0, x1, x2, x3, x4, x5, x6, x7, x8, x9, x10, x11], _ => (by kernel_rfl : findP code2 ([x0, x1, x2, x3, x4, x5, x6, x7, x8, x9, x10, x11] ++ (46 :: 13 :: 10 :: ys)) 12 false = some (some (13, 15)))
  | [x0, x1, x2, x3, x4, x5, x6, x7, x8, x9, x10, x11, x12], _ => (by kernel_rfl : findP code2 ([x0, x1, x2, x3, x4, x5, x6, x7, x8, x9, x10, x11, x12] ++ (46 :: 13 :: 10 :: ys)) 13 false = some (some (14, 16)))
  | [x0, x1, x2, x3, x4, x5, x6, x7, x8, x9, x10, x11, x12, x13], _ => (by kernel_rfl : findP code2 ([x0, x1, x2, x3, x4, x5, x6, x7, x8, x9, x10, x11, x12, x13] ++ (46 :: 13 :: 10 :: ys)) 14 false = some (some (15, 17)))
  | [x0, x1, x2, x3, x4, x5, x6, x7, x8, x9, x10, x11, x12, x13, x14], _ => (by kernel_rfl : findP code2 ([x0, x1, x2, x3, x4, x5, x6, x7, x8, x9, x10, x11, x12, x13, x14] ++ (46 :: 13 :: 10 :: ys)) 15 false = some (some (16, 18)))
  | [x0, x1, x2, x3, x4, x5, x6, x7, x8, x9, x10, x11, x12, x13, x14, x15], _ => (by kernel_rfl : findP code2 ([x0, x1, x2, x3, x4, x5, x6, x7, x8, x9, x10, x11, x12, x13, x14, x15] ++ (46 :: 13 :: 10 :: ys)) 16 false = some (some (17, 19)))
  | _ :: _ :: _ :: _ :: _ :: _ :: _ :: _ :: _ :: _ :: _ :: _ :: _ :: _ :: _ :: _ :: _ :: _, h => absurd h (by simp only [List.length_cons]; (first | lia | omega))
theorem p_crlf_2 (ys : List Nat) : ∀ xs : List Nat, xs.length ≤ 16 → findP code2 (xs ++ (46 :: 46 :: 13 :: 10 :: ys)) xs.length false = some (some (xs.length + 2, xs.length + 2 + 2))
  | [], _ => (by kernel_rfl : findP code2 ([] ++ (46 :: 46 :: 13 :: 10 :: ys)) 0 false = some (some (2, 4)))
  | [x0], _ => (by kernel_rfl : findP code2 ([x0] ++ (46 :: 46 :: 13 :: 10 :: ys)) 1 false = some (some (3, 5)))
  | [x0, x1], _ => (by kernel_rfl : findP code2 ([x0, x1] ++ (46 :: 46 :: 13 :: 10 :: ys)) 2 false = some (some (4, 6)))
  | [x0, x1, x2], _ => (by kernel_rfl : findP code2 ([x0, x1, x2] ++ (46 :: 46 :: 13 :: 10 :: ys)) 3 false = some (some (5, 7)))
  | [x0, x1, x2, x3], _ => (by kernel_rfl : findP code2 ([x0, x1, x2, x3] ++ (46 :: 46 :: 13 :: 10 :: ys)) 4 false = some (some (6, 8)))
  | [x0, x1, x2, x3, x4], _ => (by kernel_rfl : findP code2 ([x0, x1, x2, x3, x4] ++ (46 :: 46 :: 13 :: 10 :: ys)) 5 false = some (some (7, 9)))
  | [x0, x1, x2, x3, x4, x5], _ => (by kernel_rfl : findP code2 ([x0, x1, x2, x3, x4, x5] ++ (46 :: 46 :: 13 :: 10 :: ys)) 6 false = some (some (8, 10)))
  | [x0, x1, x2, x3, x4, x5, x6], _ => (by kernel_rfl : findP code2 ([x0, x1, x2, x3, x4, x5, x6] ++ (46 :: 46 :: 13 :: 10 :: ys)) 7 false = some (some (9, 11)))
  | [x0, x1, x2, x3, x4, x5, x6, x7], _ => (by kernel_rfl : findP code2 ([x0, x1, x2, x3, x4, x5, x6, x7] ++ (46 :: 46 :: 13 :: 10 :: ys)) 8 false = some (some (10, 12)))
  | [x0, x1, x2, x3, x4, x5, x6, x7, x8], _ => (by kernel_rfl : findP code2 ([x0, x1, x2, x3, x4, x5, x6, x7, x8] ++ (46 :: 46 :: 13 :: 10 :: ys)) 9 false = some (some (11, 13)))
  | [x0, x1, x2, x3, x4, x5, x6, x7, x8, x9], _ => (by kernel_rfl : findP code2 ([x0, x1, x2, x3, x4, x5, x6, x7, x8, x9] ++ (46 :: 46 :: 13 :: 10 :: ys)) 10 false = some (some (12, 14)))
  | [x0, x1, x2, x3, x4, x5, x6, x7, x8, x9, x10], _ => (by kernel_rfl : findP code2 ([x0, x1, x2, x3, x4, x5, x6, x7, x8, x9, x10] ++ (46 :: 46 :: 13 :: 10 :: ys)) 11 false = some (some (13, 15)))
  | [x0, x1, x2, x3, x4, x5, x6, x7, x8, x9, x10, x11], _ => (by kernel_rfl : findP code2 ([x0, x1, x2, x3, x4, x5, x6, x7, x8, x9, x10, x11] ++ (46 :: 46 :: 13 :: 10 :: ys)) 12 false = some (some (14, 16)))
  | [x0, x1, x2, x3, x4, x5, x6, x7, x8, x9, x10, x11, x12], _ => (by kernel_rfl : findP code2 ([x0, x1, x2, x3, x4, x5, x6, x7, x8, x9, x10, x11, x12] ++ (46 :: 46 :: 13 :: 10 :: ys)) 13 false = some (some (15, 17)))
  | [x0, x1, x2, x3, x4, x5, x6, x7, x8, x9, x10, x11, x12, x13], _ => (by kernel_rfl : findP code2 ([x0, x1, x2, x3, x4, x5, x6, x7, x8, x9, x10, x11, x12, x13] ++ (46 :: 46 :: 13 :: 10 :: ys)) 14 false = some (some (16, 18)))
  | [x0, x1, x2, x3, x4, x5, x6, x7, x8, x9, x10, x11, x12, x13, x14], _ => (by kernel_rfl : findP code2 ([x0, x1, x2, x3, x4, x5, x6, x7, x8, x9, x10, x11, x12, x13, x14] ++ (46 :: 46 :: 13 :: 10 :: ys)) 15 false = some (some (17, 19)))
  | [x0, x1, x2, x3, x4, x5, x6, x7, x8, x9, x10, x11, x12, x13, x14, x15], _ => (by kernel_rfl : findP code2 ([x0, x1, x2, x3, x4, x5, x6, x7, x8, x9, x10, x11, x12, x13, x14, x15] ++ (46 :: 46 :: 13 :: 10 :: ys)) 16 false = some (some (18, 20)))
  | _ :: _ :: _ :: _ :: _ :: _ :: _ :: _ :: _ :: _ :: _ :: _ :: _ :: _ :: _ :: _ :: _ :: _, h => absurd h (by simp only [List.length_cons]; (first | lia | omega))
theorem p_crlf_3 (ys : List Nat) : ∀ xs : List Nat, xs.length ≤ 16 → findP code2 (xs ++ (46 :: 46 :: 46 :: 13 :: 10 :: ys)) xs.length false = some (some (xs.length + 3, xs.length + 3 + 2))
  | [], _ => (by kernel_rfl : findP code2 ([] ++ (46 :: 46 :: 46 :: 13 :: 10 :: ys)) 0 false = some (some (3, 5)))
  | [x0], _ => (by kernel_rfl : findP code2 ([x0] ++ (46 :: 46 :: 46 :: 13 :: 10 :: ys)) 1 false = some (some (4, 6)))
  | [x0, x1], _ => (by kernel_rfl : findP code2 ([x0, x1] ++ (46 :: 46 :: 46 :: 13 :: 10 :: ys)) 2 false = some (some (5, 7)))
  | [x0, x1, x2], _ => (by kernel_rfl : findP code2 ([x0, x1, x2] ++ (46 :: 46 :: 46 :: 13 :: 10 :: ys)) 3 false = some (some (6, 8)))
  | [x0, x1, x2, x3], _ => (by kernel_rfl : findP code2 ([x0, x1, x2, x3] ++ (46 :: 46 :: 46 :: 13 :: 10 :: ys)) 4 false = some (some (7, 9)))
  | [x0, x1, x2, x3, x4], _ => (by kernel_rfl : findP code2 ([x0, x1, x2, x3, x4] ++ (46 :: 46 :: 46 :: 13 :: 10 :: ys)) 5 false = some (some (8, 10)))
  | [x0, x1, x2, x3, x4, x5], _ => (by kernel_rfl : findP code2 ([x0, x1, x2, x3, x4, x5] ++ (46 :: 46 :: 46 :: 13 :: 10 :: ys)) 6 false = some (some (9, 11)))
  | [x0, x1, x2, x3, x4, x5, x6], _ => (by kernel_rfl : findP code2 ([x0, x1, x2, x3, x4, x5, x6] ++ (46 :: 46 :: 46 :: 13 :: 10 :: ys)) 7 false = some (some (10, 12)))
  | [x0, x1, x2, x3, x4, x5, x6, x7], _ => (by kernel_rfl : findP code2 ([x0, x1, x2, x3, x4, x5, x6, x7] ++ (46 :: 46 :: 46 :: 13 :: 10 :: ys)) 8 false = some (some (11, 13)))
  | [x0, x1, x2, x3, x4, x5, x6, x7, x8], _ => (by kernel_rfl : findP code2 ([x0, x1, x2, x3, x4, x5, x6, x7, x8] ++ (46 :: 46 :: 46 :: 13 :: 10 :: ys)) 9 false = some (some (12, 14)))
  | [x0, x1, x2, x3, x4, x5, x6, x7, x8, x9], _ => (by kernel_rfl : findP code2 ([x0, x1, x2, x3, x4, x5, x6, x7, x8, x9] ++ (46 :: 46 :: 46 :: 13 :: 10 :: ys)) 10 false = some (some (13, 15)))
  | [x0, x1, x2, x3, x4, x5, x6, x7, x8, x9, x10], _ => (by kernel_rfl : findP code2 ([x0, x1, x2, x3, x4, x5, x6, x7, x8, x9, x10] ++ (46 :: 46 :: 46 :: 13 :: 10 :: ys)) 11 false = some (some (14, 16)))
  | [x0, x1, x2, x3, x4, x5, x6, x7, x8, x9, x10, x11], _ => (by kernel_rfl : findP code2 ([x0, x1, x2, x3, x4, x5, x6, x7, x8, x9, x10, x11] ++ (46 :: 46 :: 46 :: 13 :: 10 :: ys)) 12 false = some (some (15, 17)))
  | [x0, x1, x2, x3, x4, x5, x6, x7, x8, x9, x10, x11, x12], _ => (by kernel_rfl : findP code2 ([x0, x1, x2, x3, x4, x5, x6, x7, x8, x9, x10, x11, x12] ++ (46 :: 46 :: 46 :: 13 :: 10 :: ys)) 13 false = some (some (16, 18)))
  | [x0, x1, x2, x3, x4, x5, x6, x7, x8, x9, x10, x11, x12, x13], _ => (by kernel_rfl : findP code2 ([x0, x1, x2, x3, x4, x5, x6, x7, x8, x9, x10, x11, x12, x13] ++ (46 :: 46 :: 46 :: 13 :: 10 :: ys)) 14 false = some (some (17, 19)))
  | [x0, x1, x2, x3, x4, x5, x6, x7, x8, x9, x10, x11, x12, x13, x14], _ => (by kernel_rfl : findP code2 ([x0, x1, x2, x3, x4, x5, x6, x7, x8, x9, x10, x11, x12, x13, x14] ++ (46 :: 46 :: 46 :: 13 :: 10 :: ys)) 15 false = some (some (18, 20)))
  | [x0, x1, x2, x3, x4, x5, x6, x7, x8, x9, x10, x11, x12, x13, x14, x15], _ => (by kernel_rfl : findP code2 ([x0, x1, x2, x3, x4, x5, x6, x7, x8, x9, x10, x11, x12, x13, x14, x15] ++ (46 :: 46 :: 46 :: 13 :: 10 :: ys)) 16 false = some (some (19, 21)))
  | _ :: _ :: _ :: _ :: _ :: _ :: _ :: _ :: _ :: _ :: _ :: _ :: _ :: _ :: _ :: _ :: _ :: _, h => absurd h (by simp only [List.length_cons]; (first | lia | omega))
theorem p_crlf_4 (ys : List Nat) : ∀ xs : List Nat, xs.length ≤ 16 → findP code2 (xs ++ (46 :: 46 :: 46 :: 46 :: 13 :: 10 :: ys)) xs.length false = some (some (xs.length + 4, xs.length + 4 + 2))
  | [], _ => (by kernel_rfl : findP code2 ([] ++ (46 :: 46 :: 46 :: 46 :: 13 :: 10 :: ys)) 0 false = some (some (4, 6)))
  | [x0], _ => (by kernel_rfl : findP code2 ([x0] ++ (46 :: 46 :: 46 :: 46 :: 13 :: 10 :: ys)) 1 false = some (some (5, 7)))
  | [x0, x1], _ => (by kernel_rfl : findP code2 ([x0, x1] ++ (46 :: 46 :: 46 :: 46 :: 13 :: 10 :: ys)) 2 false = some (some (6, 8)))
  | [x0, x1, x2], _ => (by kernel_rfl : findP code2 ([x0, x1, x2] ++ (46 :: 46 :: 46 :: 46 :: 13 :: 10 :: ys)) 3 false = some (some (7, 9)))
  | [x0, x1, x2, x3], _ => (by kernel_rfl : findP code2 ([x0, x1, x2, x3] ++ (46 :: 46 :: 46 :: 46 :: 13 :: 10 :: ys)) 4 false = some (some (8, 10)))
  | [x0, x1, x2, x3, x4], _ => (by kernel_rfl : findP code2 ([x0, x1, x2, x3, x4] ++ (46 :: 46 :: 46 :: 46 :: 13 :: 10 :: ys)) 5 false = some (some (9, 11)))
  | [x0, x1, x2, x3, x4, x5], _ => (by kernel_rfl : findP code2 ([x0, x1, x2, x3, x4, x5] ++ (46 :: 46 :: 46 :: 46 :: 13 :: 10 :: ys)) 6 false = some (some (10, 12)))
  | [x0, x1, x2, x3, x4, x5, x6], _ => (by kernel_rfl : findP code2 ([x0, x1, x2, x3, x4, x5, x6] ++ (46 :: 46 :: 46 :: 46 :: 13 :: 10 :: ys)) 7 false = some (some (11, 13)))
  | [x0, x1, x2, x3, x4, x5, x6, x7], _ => (by kernel_rfl : findP code2 ([x0, x1, x2, x3, x4, x5, x6, x7] ++ (46 :: 46 :: 46 :: 46 :: 13 :: 10 :: ys)) 8 false = some (some (12, 14)))
  | [x0, x1, x2, x3, x4, x5, x6, x7, x8], _ => (by kernel_rfl : findP code2 ([x0, x1, x2, x3, x4, x5, x6, x7, x8] ++ (46 :: 46 :: 46 :: 46 :: 13 :: 10 :: ys)) 9 false = some (some (13, 15)))
  | [x0, x1, x2, x3, x4, x5, x6, x7, x8, x9], _ => (by kernel_rfl : findP code2 ([x0, x1, x2, x3, x4, x5, x6, x7, x8, x9] ++ (46 :: 46 :: 46 :: 46 :: 13 :: 10 :: ys)) 10 false = some (some (14, 16)))
  | [x0, x1, x2, x3, x4, x5, x6, x7, x8, x9, x10], _ => (by kernel_rfl : findP code2 ([x0, x1, x2, x3, x4, x5, x6, x7, x8, x9, x10] ++ (46 :: 46 :: 46 :: 46 :: 13 :: 10 :: ys)) 11 false = some (some (15, 17)))
  | [x0, x1, x2, x3, x4, x5, x6, x7, x8, x9, x10, x11], _ => (by kernel_rfl : findP code2 ([x0, x1, x2, x3, x4, x5, x6, x7, x8, x9, x10, x11] ++ (46 :: 46 :: 46 :: 46 :: 13 :: 10 :: ys)) 12 false = some (some (16, 18)))
  | [x0, x1, x2, x3, x4, x5, x6, x7, x8, x9, x10, x11, x12], _ => (by kernel_rfl : findP code2 ([x0, x1, x2, x3, x4, x5, x6, x7, x8, x9, x10, x11, x12] ++ (46 :: 46 :: 46 :: 46 :: 13 :: 10 :: ys)) 13 false = some (some (17, 19)))
  | [x0, x1, x2, x3, x4, x5, x6, x7, x8, x9, x10, x11, x12, x13], _ => (by kernel_rfl : findP code2 ([x0, x1, x2, x3, x4, x5, x6, x7, x8, x9, x10, x11, x12, x13] ++ (46 :: 46 :: 46 :: 46 :: 13 :: 10 :: ys)) 14 false = some (some (18, 20)))
  | [x0, x1, x2, x3, x4, x5, x6, x7, x8, x9, x10, x11, x12, x13, x14], _ => (by kernel_rfl : findP code2 ([x0, x1, x2, x3, x4, x5, x6, x7, x8, x9, x10, x11, x12, x13, x14] ++ (46 :: 46 :: 46 :: 46 :: 13 :: 10 :: ys)) 15 false = some (some (19, 21)))
  | [x0, x1, x2, x3, x4, x5, x6, x7, x8, x9, x10, x11, x12, x13, x14, x15], _ => (by kernel_rfl : findP code2 ([x0, x1, x2, x3, x4, x5, x6, x7, x8, x9, x10, x11, x12, x13, x14, x15] ++ (46 :: 46 :: 46 :: 46 :: 13 :: 10 :: ys)) 16 false = some (some (20, 22)))
  | _ :: _ :: _ :: _ :: _ :: _ :: _ :: _ :: _ :: _ :: _ :: _ :: _ :: _ :: _ :: _ :: _ :: _, h => absurd h (by simp only [List.length_cons]; (first | lia | omega))
theorem p_crlf_5 (ys : List Nat) : ∀ xs : List Nat, xs.length ≤ 16 → findP code2 (xs ++ (46 :: 46 :: 46 :: 46 :: 46 :: 13 :: 10 :: ys)) xs.length false = some (some (xs.length + 5, xs.length + 5 + 2))
  | [], _ => (by kernel_rfl : findP code2 ([] ++ (46 :: 46 :: 46 :: 46 :: 46 :: 13 :: 10 :: ys)) 0 false = some (some (5, 7)))
  | [x0], _ => (by kernel_rfl : findP code2 ([x0] ++ (46 :: 46 :: 46 :: 46 :: 46 :: 13 :: 10 :: ys)) 1 false = some (some (6, 8)))
  | [x0, x1], _ => (by kernel_rfl : findP code2 ([x0, x1] ++ (46 :: 46 :: 46 :: 46 :: 46 :: 13 :: 10 :: ys)) 2 false = some (some (7, 9)))
  | [x0, x1, x2], _ => (by kernel_rfl : findP code2 ([x0, x1, x2] ++ (46 :: 46 :: 46 :: 46 :: 46 :: 13 :: 10 :: ys)) 3 false = some (some (8, 10)))
  | [x0, x1, x2, x3], _ => (by kernel_rfl : findP code2 ([x0, x1, x2, x3] ++ (46 :: 46 :: 46 :: 46 :: 46 :: 13 :: 10 :: ys)) 4 false = some (some (9, 11)))
  | [x0, x1, x2, x3, x4], _ => (by kernel_rfl : findP code2 ([x0, x1, x2, x3, x4] ++ (46 :: 46 :: 46 :: 46 :: 46 :: 13 :: 10 :: ys)) 5 false = some (some (10, 12)))
  | [x0, x1, x2, x3, x4, x5], _ => (by kernel_rfl : findP code2 ([x0, x1, x2, x3, x4, x5] ++ (46 :: 46 :: 46 :: 46 :: 46 :: 13 :: 10 :: ys)) 6 false = some (some (11, 13)))
  | [x0, x1, x2, x3, x4, x5, x6], _ => (by kernel_rfl : findP code2 ([x0, x1, x2, x3, x4, x5, x6] ++ (46 :: 46 :: 46 :: 46 :: 46 :: 13 :: 10 :: ys)) 7 false = some (some (12, 14)))
  | [x0, x1, x2, x3, x4, x5, x6, x7], _ => (by kernel_rfl : findP code2 ([x0, x1, x2, x3, x4, x5, x6, x7] ++ (46 :: 46 :: 46 :: 46 :: 46 :: 13 :: 10 :: ys)) 8 false = some (some (13, 15)))
  | [x0, x1, x2, x3, x4, x5, x6, x7, x8], _ => (by kernel_rfl : findP code2 ([x0, x1, x2, x3, x4, x5, x6, x7, x8] ++ (46 :: 46 :: 46 :: 46 :: 46 :: 13 :: 10 :: ys)) 9 false = some (some (14, 16)))
  | [x0, x1, x2, x3, x4, x5, x6, x7, x8, x9], _ => (by kernel_rfl : findP code2 ([x0, x1, x2, x3, x4, x5, x6, x7, x8, x9] ++ (46 :: 46 :: 46 :: 46 :: 46 :: 13 :: 10 :: ys)) 10 false = some (some (15, 17)))
  | [x0, x1, x2, x3, x4, x5, x6, x7, x8, x9, x10], _ => (by kernel_rfl : findP code2 ([x0, x1, x2, x3, x4, x5, x6, x7, x8, x9, x10] ++ (46 :: 46 :: 46 :: 46 :: 46 :: 13 :: 10 :: ys)) 11 false = some (some (16, 18)))
  | [x0, x1, x2, x3, x4, x5, x6, x7, x8, x9, x10, x11], _ => (by kernel_rfl : findP code2 ([x0, x1, x2, x3, x4, x5, x6, x7, x8, x9, x10, x11] ++ (46 :: 46 :: 46 :: 46 :: 46 :: 13 :: 10 :: ys)) 12 false = some (some (17, 19)))
  | [x0, x1, x2, x3, x4, x5, x6, x7, x8, x9, x10, x11, x12], _ => (by kernel_rfl : findP code2 ([x0, x1, x2, x3, x4, x5, x6, x7, x8, x9, x10, x11, x12] ++ (46 :: 46 :: 46 :: 46 :: 46 :: 13 :: 10 :: ys)) 13 false = some (some (18, 20)))
  | [x0, x1, x2, x3, x4, x5, x6, x7, x8, x9, x10, x11, x12, x13], _ => (by kernel_rfl : findP code2 ([x0, x1, x2, x3, x4, x5, x6, x7, x8, x9, x10, x11, x12, x13] ++ (46 :: 46 :: 46 :: 46 :: 46 :: 13 :: 10 :: ys)) 14 false = some (some (19, 21)))
  | [x0, x1, x2, x3, x4, x5, x6, x7, x8, x9, x10, x11, x12, x13, x14], _ => (by kernel_rfl : findP code2 ([x0, x1, x2, x3, x4, x5, x6, x7, x8, x9, x10, x11, x12, x13, x14] ++ (46 :: 46 :: 46 :: 46 :: 46 :: 13 :: 10 :: ys)) 15 false = some (some (20, 22)))
  | [x0, x1, x2, x3, x4, x5, x6, x7, x8, x9, x10, x11, x12, x13, x14, x15], _ => (by kernel_rfl : findP code2 ([x0, x1, x2, x3, x4, x5, x6, x7, x8, x9, x10, x11, x12, x13, x14, x15] ++ (46 :: 46 :: 46 :: 46 :: 46 :: 13 :: 10 :: ys)) 16 false = some (some (21, 23)))
  | _ :: _ :: _ :: _ :: _ :: _ :: _ :: _ :: _ :: _ :: _ :: _ :: _ :: _ :: _ :: _ :: _ :: _, h => absurd h (by simp only [List.length_cons]; (first | lia | omega))
theorem p_crlf_6 (ys : List Nat) : ∀ xs : List Nat, xs.length ≤ 16 → findP code2 (xs ++ (46 :: 46 :: 46 :: 46 :: 46 :: 46 :: 13 :: 10 :: ys)) xs.length false = some (some (xs.length + 6, xs.length + 6 + 2))
  | [], _ => (by kernel_rfl : findP code2 ([] ++ (46 :: 46 :: 46 :: 46 :: 46 :: 46 :: 13 :: 10 :: ys)) 0 false = some (some (6, 8)))
  | [x0], _ => (by kernel_rfl : findP code2 ([x0] ++ (46 :: 46 :: 46 :: 46 :: 46 :: 46 :: 13 :: 10 :: ys)) 1 false = some (some (7, 9)))
  | [x0, x1], _ => (by kernel_rfl : findP code2 ([x0, x1] ++ (46 :: 46 :: 46 :: 46 :: 46 :: 46 :: 13 :: 10 :: ys)) 2 false = some (some (8, 10)))
  | [x0, x1, x2], _ => (by kernel_rfl : findP code2 ([x0, x1, x2] ++ (46 :: 46 :: 46 :: 46 :: 46 :: 46 :: 13 :: 10 :: ys)) 3 false = some (some (9, 11)))
  | [x0, x1, x2, x3], _ => (by kernel_rfl : findP code2 ([x0, x1, x2, x3] ++ (46 :: 46 :: 46 :: 46 :: 46 :: 46 :: 13 :: 10 :: ys)) 4 false = some (some (10, 12)))
  | [x0, x1, x2, x3, x4], _ => (by kernel_rfl : findP code2 ([x0, x1, x2, x3, x4] ++ (46 :: 46 :: 46 :: 46 :: 46 :: 46 :: 13 :: 10 :: ys)) 5 false = some (some (11, 13)))
  | [x0, x1, x2, x3, x4, x5], _ => (by kernel_rfl : findP code2 ([x0, x1, x2, x3, x4, x5] ++ (46 :: 46 :: 46 :: 46 :: 46 :: 46 :: 13 :: 10 :: ys)) 6 false = some (some (12, 14)))
  | [x0, x1, x2, x3, x4, x5, x6], _ => (by kernel_rfl : findP code2 ([x0, x1, x2, x3, x4, x5, x6] ++ (46 :: 46 :: 46 :: 46 :: 46 :: 46 :: 13 :: 10 :: ys)) 7 false = some (some (13, 15)))
  | [x0, x1, x2, x3, x4, x5, x6, x7], _ => (by kernel_rfl : findP code2 ([x0, x1, x2, x3, x4, x5, x6, x7] ++ (46 :: 46 :: 46 :: 46 :: 46 :: 46 :: 13 :: 10 :: ys)) 8 false = some (some (14, 16)))
  | [x0, x1, x2, x3, x4, x5, x6, x7, x8], _ => (by kernel_rfl : findP code2 ([x0, x1, x2, x3, x4, x5, x6, x7, x8] ++ (46 :: 46 :: 46 :: 46 :: 46 :: 46 :: 13 :: 10 :: ys)) 9 false = some (some (15, 17)))
  | [x0, x1, x2, x3, x4, x5, x6, x7, x8, x9], _ => (by kernel_rfl : findP code2 ([x0, x1, x2, x3, x4, x5, x6, x7, x8, x9] ++ (46 :: 46 :: 46 :: 46 :: 46 :: 46 :: 13 :: 10 :: ys)) 10 false = some (some (16, 18)))
  | [x0, x1, x2, x3, x4, x5, x6, x7, x8, x9, x10], _ => (by kernel_rfl : findP code2 ([x0, x1, x2, x3, x4, x5, x6, x7, x8, x9, x10] ++ (46 :: 46 :: 46 :: 46 :: 46 :: 46 :: 13 :: 10 :: ys)) 11 false = some (some (17, 19)))
  | [x0, x1, x2, x3, x4, x5, x6, x7, x8, x9, x10, x11], _ => (by kernel_rfl : findP code2 ([x0, x1, x2, x3, x4, x5, x6, x7, x8, x9, x10, x11] ++ (46 :: 46 :: 46 :: 46 :: 46 :: 46 :: 13 :: 10 :: ys)) 12 false = some (some (18, 20)))
  | [x0, x1, x2, x3, x4, x5, x6, x7, x8, x9, x10, x11, x12], _ => (by kernel_rfl : findP code2 ([x0, x1, x2, x3, x4, x5, x6, x7, x8, x9, x10, x11, x12] ++ (46 :: 46 :: 46 :: 46 :: 46 :: 46 :: 13 :: 10 :: ys)) 13 false = some (some (19, 21)))
  | [x0, x1, x2, x3, x4, x5, x6, x7, x8, x9, x10, x11, x12, x13], _ => (by kernel_rfl : findP code2 ([x0, x1, x2, x3, x4, x5, x6, x7, x8, x9, x10, x11, x12, x13] ++ (46 :: 46 :: 46 :: 46 :: 46 :: 46 :: 13 :: 10 :: ys)) 14 false = some (some (20, 22)))
  | [x0, x1, x2, x3, x4, x5, x6, x7, x8, x9, x10, x11, x12, x13, x14], _ => (by kernel_rfl : findP code2 ([x0, x1, x2, x3, x4, x5, x6, x7, x8, x9, x10, x11, x12, x13, x14] ++ (46 :: 46 :: 46 :: 46 :: 46 :: 46 :: 13 :: 10 :: ys)) 15 false = some (some (21, 23)))
  | [x0, x1, x2, x3, x4, x5, x6, x7, x8, x9, x10, x11, x12, x13, x14, x15], _ => (by kernel_rfl : findP code2 ([x0, x1, x2, x3, x4, x5, x6, x7, x8, x9, x10, x11, x12, x13, x14, x15] ++ (46 :: 46 :: 46 :: 46 :: 46 :: 46 :: 13 :: 10 :: ys)) 16 false = some (some (22, 24)))
  | _ :: _ :: _ :: _ :: _ :: _ :: _ :: _ :: _ :: _ :: _ :: _ :: _ :: _ :: _ :: _ :: _ :: _, h => absurd h (by simp only [List.length_cons]; (first | lia | omega))
theorem p_crdot_1 (ys : List Nat) : ∀ xs : List Nat, xs.length ≤ 12 → findP code2 (xs ++ (46 :: 13 :: 46 :: ys)) xs.length false = some (some (xs.length + 1, xs.length + 1 + 1))
  | [], _ => (by kernel_rfl : findP code2 ([] ++ (46 :: 13 :: 46 :: ys)) 0 false = some (some (1, 2)))
  | [x0], _ => (by kernel_rfl : findP code2 ([x0] ++ (46 :: 13 :: 46 :: ys)) 1 false = some (some (2, 3)))
  | [x0, x1], _ => (by kernel_rfl : findP code2 ([x0, x1] ++ (46 :: 13 :: 46 :: ys)) 2 false = some (some (3, 4)))
  | [x0, x1, x2], _ => (by kernel_rfl : findP code2 ([x0, x1, x2] ++ (46 :: 13 :: 46 :: ys)) 3 false = some (some (4, 5)))
  | [x0, x1, x2, x3], _ => (by kernel_rfl : findP code2 ([x0, x1, x2, x3] ++ (46 :: 13 :: 46 :: ys)) 4 false = some (some (5, 6)))
  | [x0, x1, x2, x3, x4], _ => (by kernel_rfl : findP code2 ([x0, x1, x2, x3, x4] ++ (46 :: 13 :: 46 :: ys)) 5 false = some (some (6, 7)))
  | [x0, x1, x2, x3, x4, x5], _ => (by kernel_rfl : findP code2 ([x0, x1, x2, x3, x4, x5] ++ (46 :: 13 :: 46 :: ys)) 6 false = some (some (7, 8)))
  | [x0, x1, x2, x3, x4, x5, x6], _ => (by kernel_rfl : findP code2 ([x0, x1, x2, x3, x4, x5, x6] ++ (46 :: 13 :: 46 :: ys)) 7 false = some (some (8, 9)))
  | [x0, x1, x2, x3, x4, x5, x6, x7], _ => (by kernel_rfl : findP code2 ([x0, x1, x2, x3, x4, x5, x6, x7] ++ (46 :: 13 :: 46 :: ys)) 8 false = some (some (9, 10)))
  | [x0, x1, x2, x3, x4, x5, x6, x7, x8], _ => (by kernel_rfl : findP code2 ([x0, x1, x2, x3, x4, x5, x6, x7, x8] ++ (46 :: 13 :: 46 :: ys)) 9 false = some (some (10, 11)))
  | [x0, x1, x2, x3, x4, x5, x6, x7, x8, x9], _ => (by kernel_rfl : findP code2 ([x0, x1, x2, x3, x4, x5, x6, x7, x8, x9] ++ (46 :: 13 :: 46 :: ys)) 10 false = some (some (11, 12)))
  | [x0, x1, x2, x3, x4, x5, x6, x7, x8, x9, x10], _ => (by kernel_rfl : findP code2 ([x0, x1, x2, x3, x4, x5, x6, x7, x8, x9, x10] ++ (46 :: 13 :: 46 :: ys)) 11 false = some (some (12, 13)))
  | [x0, x1, x2, x3, x4, x5, x6, x7, x8, x9, x10, x11], _ => (by kernel_rfl : findP code2 ([x0, x1, x2, x3, x4, x5, x6, x7, x8, x9, x10, x11] ++ (46 :: 13 :: 46 :: ys)) 12 false = some (some (13, 14)))
  | _ :: _ :: _ :: _ :: _ :: _ :: _ :: _ :: _ :: _ :: _ :: _ :: _ :: _, h => absurd h (by simp only [List.length_cons]; (first | lia | omega))
theorem p_crdot_2 (ys : List Nat) : ∀ xs : List Nat, xs.length ≤ 12 → findP code2 (xs ++ (46 :: 46 :: 13 :: 46 :: ys)) xs.length false = some (some (xs.length + 2, xs.length + 2 + 1))
  | [], _ => (by kernel_rfl : findP code2 ([] ++ (46 :: 46 :: 13 :: 46 :: ys)) 0 false = some (some (2, 3)))
  | [x0], _ => (by kernel_rfl : findP code2 ([x0] ++ (46 :: 46 :: 13 :: 46 :: ys)) 1 false = some (some (3, 4)))
  | [x0, x1], _ => (by kernel_rfl : findP code2 ([x0, x1] ++ (46 :: 46 :: 13 :: 46 :: ys)) 2 false = some (some (4, 5)))
  | [x0, x1, x2], _ => (by kernel_rfl : findP code2 ([x0, x1, x2] ++ (46 :: 46 :: 13 :: 46 :: ys)) 3 false = some (some (5, 6)))
  | [x0, x1, x2, x3], _ => (by kernel_rfl : findP code2 ([x0, x1, x2, x3] ++ (46 :: 46 :: 13 :: 46 :: ys)) 4 false = some (some (6, 7)))
  | [x0, x1, x2, x3, x4], _ => (by kernel_rfl : findP code2 ([x0, x1, x2, x3, x4] ++ (46 :: 46 :: 13 :: 46 :: ys)) 5 false = some (some (7, 8)))
  | [x0, x1, x2, x3, x4, x5], _ => (by kernel_rfl : findP code2 ([x0, x1, x2, x3, x4, x5] ++ (46 :: 46 :: 13 :: 46 :: ys)) 6 false = some (some (8, 9)))
  | [x0, x1, x2, x3, x4, x5, x6], _ => (by kernel_rfl : findP code2 ([x0, x1, x2, x3, x4, x5, x6] ++ (46 :: 46 :: 13 :: 46 :: ys)) 7 false = some (some (9, 10)))
  | [x0, x1, x2, x3, x4, x5, x6, x7], _ => (by kernel_rfl : findP code2 ([x0, x1, x2, x3, x4, x5, x6, x7] ++ (46 :: 46 :: 13 :: 46 :: ys)) 8 false = some (some (10, 11)))
  | [x0, x1, x2, x3, x4, x5, x6, x7, x8], _ => (by kernel_rfl : findP code2 ([x0, x1, x2, x3, x4, x5, x6, x7, x8] ++ (46 :: 46 :: 13 :: 46 :: ys)) 9 false = some (some (11, 12)))
  | [x0, x1, x2, x3, x4, x5, x6, x7, x8, x9], _ => (by kernel_rfl : findP code2 ([x0, x1, x2, x3, x4, x5, x6, x7, x8, x9] ++ (46 :: 46 :: 13 :: 46 :: ys)) 10 false = some (some (12, 13)))
  | [x0, x1, x2, x3, x4, x5, x6, x7, x8, x9, x10], _ => (by kernel_rfl : findP code2 ([x0, x1, x2, x3, x4, x5, x6, x7, x8, x9, x10] ++ (46 :: 46 :: 13 :: 46 :: ys)) 11 false = some (some (13, 14)))
  | [x0, x1, x2, x3, x4, x5, x6, x7, x8, x9, x10, x11], _ => (by kernel_rfl : findP code2 ([x0, x1, x2, x3, x4, x5, x6, x7, x8, x9, x10, x11] ++ (46 :: 46 :: 13 :: 46 :: ys)) 12 false = some (some (14, 15)))
  | _ :: _ :: _ :: _ :: _ :: _ :: _ :: _ :: _ :: _ :: _ :: _ :: _ :: _, h => absurd h (by simp only [List.length_cons]; (first | lia | omega))
theorem p_crdot_3 (ys : List Nat) : ∀ xs : List Nat, xs.length ≤ 12 → findP code2 (xs ++ (46 :: 46 :: 46 :: 13 :: 46 :: ys)) xs.length false = some (some (xs.length + 3, xs.length + 3 + 1))
  | [], _ => (by kernel_rfl : findP code2 ([] ++ (46 :: 46 :: 46 :: 13 :: 46 :: ys)) 0 false = some (some (3, 4)))
  | [x0], _ => (by kernel_rfl : findP code2 ([x0] ++ (46 :: 46 :: 46 :: 13 :: 46 :: ys)) 1 false = some (some (4, 5)))
  | [x0, x1], _ => (by kernel_rfl : findP code2 ([x0, x1] ++ (46 :: 46 :: 46 :: 13 :: 46 :: ys)) 2 false = some (some (5, 6)))
  | [x0, x1, x2], _ => (by kernel_rfl : findP code2 ([x0, x1, x2] ++ (46 :: 46 :: 46 :: 13 :: 46 :: ys)) 3 false = some (some (6, 7)))
  | [x0, x1, x2, x3], _ => (by kernel_rfl : findP code2 ([x0, x1, x2, x3] ++ (46 :: 46 :: 46 :: 13 :: 46 :: ys)) 4 false = some (some (7, 8)))
  | [x0, x1, x2, x3, x4], _ => (by kernel_rfl : findP code2 ([x0, x1, x2, x3, x4] ++ (46 :: 46 :: 46 :: 13 :: 46 :: ys)) 5 false = some (some (8, 9)))
  | [x0, x1, x2, x3, x4, x5], _ => (by kernel_rfl : findP code2 ([x0, x1, x2, x3, x4, x5] ++ (46 :: 46 :: 46 :: 13 :: 46 :: ys)) 6 false = some (some (9, 10)))
  | [x0, x1, x2, x3, x4, x5, x6], _ => (by kernel_rfl : findP code2 ([x0, x1, x2, x3, x4, x5, x6] ++ (46 :: 46 :: 46 :: 13 :: 46 :: ys)) 7 false = some (some (10, 11)))
  | [x0, x1, x2, x3, x4, x5, x6, x7], _ => (by kernel_rfl : findP code2 ([x0, x1, x2, x3, x4, x5, x6, x7] ++ (46 :: 46 :: 46 :: 13 :: 46 :: ys)) 8 false = some (some (11, 12)))
  | [x0, x1, x2, x3, x4, x5, x6, x7, x8], _ => (by kernel_rfl : findP code2 ([x0, x1, x2, x3, x4, x5, x6, x7, x8] ++ (46 :: 46 :: 46 :: 13 :: 46 :: ys)) 9 false = some (some (12, 13)))
  | [x0, x1, x2, x3, x4, x5, x6, x7, x8, x9], _ => (by kernel_rfl : findP code2 ([x0, x1, x2, x3, x4, x5, x6, x7, x8, x9] ++ (46 :: 46 :: 46 :: 13 :: 46 :: ys)) 10 false = some (some (13, 14)))
  | [x0, x1, x2, x3, x4, x5, x6, x7, x8, x9, x10], _ => (by kernel_rfl : findP code2 ([x0, x1, x2, x3, x4, x5, x6, x7, x8, x9, x10] ++ (46 :: 46 :: 46 :: 13 :: 46 :: ys)) 11 false = some (some (14, 15)))
  | [x0, x1, x2, x3, x4, x5, x6, x7, x8, x9, x10, x11], _ => (by kernel_rfl : findP code2 ([x0, x1, x2, x3, x4, x5, x6, x7, x8, x9, x10, x11] ++ (46 :: 46 :: 46 :: 13 :: 46 :: ys)) 12 false = some (some (15, 16)))
  | _ :: _ :: _ :: _ :: _ :: _ :: _ :: _ :: _ :: _ :: _ :: _ :: _ :: _, h => absurd h (by simp only [List.length_cons]; (first | lia | omega))
theorem p_crdot_4 (ys : List Nat) : ∀ xs : List Nat, xs.length ≤ 12 → findP code2 (xs ++ (46 :: 46 :: 46 :: 46 :: 13 :: 46 :: ys)) xs.length false = some (some (xs.length + 4, xs.length + 4 + 1))
  | [], _ => (by kernel_rfl : findP code2 ([] ++ (46 :: 46 :: 46 :: 46 :: 13 :: 46 :: ys)) 0 false = some (some (4, 5)))
  | [x0], _ => (by kernel_rfl : findP code2 ([x0] ++ (46 :: 46 :: 46 :: 46 :: 13 :: 46 :: ys)) 1 false = some (some (5, 6)))
  | [x0, x1], _ => (by kernel_rfl : findP code2 ([x0, x1] ++ (46 :: 46 :: 46 :: 46 :: 13 :: 46 :: ys)) 2 false = some (some (6, 7)))
  | [x0, x1, x2], _ => (by kernel_rfl : findP code2 ([x0, x1, x2] ++ (46 :: 46 :: 46 :: 46 :: 13 :: 46 :: ys)) 3 false = some (some (7, 8)))
  | [x0, x1, x2, x3], _ => (by kernel_rfl : findP code2 ([x0, x1, x2, x3] ++ (46 :: 46 :: 46 :: 46 :: 13 :: 46 :: ys)) 4 false = some (some (8, 9)))
  | [x0, x1, x2, x3, x4], _ => (by kernel_rfl : findP code2 ([x0, x1, x2, x3, x4] ++ (46 :: 46 :: 46 :: 46 :: 13 :: 46 :: ys)) 5 false = some (some (9, 10)))
  | [x0, x1, x2, x3, x4, x5], _ => (by kernel_rfl : findP code2 ([x0, x1, x2, x3, x4, x5] ++ (46 :: 46 :: 46 :: 46 :: 13 :: 46 :: ys)) 6 false = some (some (10, 11)))
  | [x0, x1, x2, x3, x4, x5, x6], _ => (by kernel_rfl : findP code2 ([x0, x1, x2, x3, x4, x5, x6] ++ (46 :: 46 :: 46 :: 46 :: 13 :: 46 :: ys)) 7 false = some (some (11, 12)))
  | [x0, x1, x2, x3, x4, x5, x6, x7], _ => (by kernel_rfl : findP code2 ([x0, x1, x2, x3, x4, x5, x6, x7] ++ (46 :: 46 :: 46 :: 46 :: 13 :: 46 :: ys)) 8 false = some (some (12, 13)))
  | [x0, x1, x2, x3, x4, x5, x6, x7, x8], _ => (by kernel_rfl : findP code2 ([x0, x1, x2, x3, x4, x5, x6, x7, x8] ++ (46 :: 46 :: 46 :: 46 :: 13 :: 46 :: ys)) 9 false = some (some (13, 14)))
  | [x0, x1, x2, x3, x4, x5, x6, x7, x8, x9], _ => (by kernel_rfl : findP code2 ([x0, x1, x2, x3, x4, x5, x6, x7, x8, x9] ++ (46 :: 46 :: 46 :: 46 :: 13 :: 46 :: ys)) 10 false = some (some (14, 15)))
  | [x0, x1, x2, x3, x4, x5, x6, x7, x8, x9, x10], _ => (by kernel_rfl : findP code2 ([x0, x1, x2, x3, x4, x5, x6, x7, x8, x9, x10] ++ (46 :: 46 :: 46 :: 46 :: 13 :: 46 :: ys)) 11 false = some (some (15, 16)))
  | [x0, x1, x2, x3, x4, x5, x6, x7, x8, x9, x10, x11], _ => (by kernel_rfl : findP code2 ([x0, x1, x2, x3, x4, x5, x6, x7, x8, x9, x10, x11] ++ (46 :: 46 :: 46 :: 46 :: 13 :: 46 :: ys)) 12 false = some (some (16, 17)))
  | _ :: _ :: _ :: _ :: _ :: _ :: _ :: _ :: _ :: _ :: _ :: _ :: _ :: _, h => absurd h (by simp only [List.length_cons]; (first | lia | omega))
theorem p_crend_1 : ∀ xs : List Nat, xs.length ≤ 12 → findP code2 (xs ++ (46 :: 13 :: [])) xs.length false = some (some (xs.length + 1, xs.length + 1 + 1))
  | [], _ => (by kernel_rfl : findP code2 ([] ++ (46 :: 13 :: [])) 0 false = some (some (1, 2)))
  | [x0], _ => (by kernel_rfl : findP code2 ([x0] ++ (46 :: 13 :: [])) 1 false = some (some (2, 3)))
  | [x0, x1], _ => (by kernel_rfl : findP code2 ([x0, x1] ++ (46 :: 13 :: [])) 2 false = some (some (3, 4)))
  | [x0, x1, x2], _ => (by kernel_rfl : findP code2 ([x0, x1, x2] ++ (46 :: 13 :: [])) 3 false = some (some (4, 5)))
  | [x0, x1, x2, x3], _ => (by kernel_rfl : findP code2 ([x0, x1, x2, x3] ++ (46 :: 13 :: [])) 4 false = some (some (5, 6)))
  | [x0, x1, x2, x3, x4], _ => (by kernel_rfl : findP code2 ([x0, x1, x2, x3, x4] ++ (46 :: 13 :: [])) 5 false = some (some (6, 7)))
  | [x0, x1, x2, x3, x4, x5], _ => (by kernel_rfl : findP code2 ([x0, x1, x2, x3, x4, x5] ++ (46 :: 13 :: [])) 6 false = some (some (7, 8)))
  | [x0, x1, x2, x3, x4, x5, x6], _ => (by kernel_rfl : findP code2 ([x0, x1, x2, x3, x4, x5, x6] ++ (46 :: 13 :: [])) 7 false = some (some (8, 9)))
  | [x0, x1, x2, x3, x4, x5, x6, x7], _ => (by kernel_rfl : findP code2 ([x0, x1, x2, x3, x4, x5, x6, x7] ++ (46 :: 13 :: [])) 8 false = some (some (9, 10)))
  | [x0, x1, x2, x3, x4, x5, x6, x7, x8], _ => (by kernel_rfl : findP code2 ([x0, x1, x2, x3, x4, x5, x6, x7, x8] ++ (46 :: 13 :: [])) 9 false = some (some (10, 11)))
  | [x0, x1, x2, x3, x4, x5, x6, x7, x8, x9], _ => (by kernel_rfl : findP code2 ([x0, x1, x2, x3, x4, x5, x6, x7, x8, x9] ++ (46 :: 13 :: [])) 10 false = some (some (11, 12)))
  | [x0, x1, x2, x3, x4, x5, x6, x7, x8, x9, x10], _ => (by kernel_rfl : findP code2 ([x0, x1, x2, x3, x4, x5, x6, x7, x8, x9, x10] ++ (46 :: 13 :: [])) 11 false = some (some (12, 13)))
  | [x0, x1, x2, x3, x4, x5, x6, x7, x8, x9, x10, x11], _ => (by kernel_rfl : findP code2 ([x0, x1, x2, x3, x4, x5, x6, x7, x8, x9, x10, x11] ++ (46 :: 13 :: [])) 12 false = some (some (13, 14)))
  | _ :: _ :: _ :: _ :: _ :: _ :: _ :: _ :: _ :: _ :: _ :: _ :: _ :: _, h => absurd h (by simp only [List.length_cons]; (first | lia | omega))
theorem p_crend_2 : ∀ xs : List Nat, xs.length ≤ 12 → findP code2 (xs ++ (46 :: 46 :: 13 :: [])) xs.length false = some (some (xs.length + 2, xs.length + 2 + 1))
  | [], _ => (by kernel_rfl : findP code2 ([] ++ (46 :: 46 :: 13 :: [])) 0 false = some (some (2, 3)))
  | [x0], _ => (by kernel_rfl : findP code2 ([x0] ++ (46 :: 46 :: 13 :: [])) 1 false = some (some (3, 4)))
  | [x0, x1], _ => (by kernel_rfl : findP code2 ([x0, x1] ++ (46 :: 46 :: 13 :: [])) 2 false = some (some (4, 5)))
  | [x0, x1, x2], _ => (by kernel_rfl : findP code2 ([x0, x1, x2] ++ (46 :: 46 :: 13 :: [])) 3 false = some (some (5, 6)))
  | [x0, x1, x2, x3], _ => (by kernel_rfl : findP code2 ([x0, x1, x2, x3] ++ (46 :: 46 :: 13 :: [])) 4 false = some (some (6, 7)))
  | [x0, x1, x2, x3, x4], _ => (by kernel_rfl : findP code2 ([x0, x1, x2, x3, x4] ++ (46 :: 46 :: 13 :: [])) 5 false = some (some (7, 8)))
  | [x0, x1, x2, x3, x4, x5], _ => (by kernel_rfl : findP code2 ([x0, x1, x2, x3, x4, x5] ++ (46 :: 46 :: 13 :: [])) 6 false = some (some (8, 9)))
  | [x0, x1, x2, x3, x4, x5, x6], _ => (by kernel_rfl : findP code2 ([x0, x1, x2, x3, x4, x5, x6] ++ (46 :: 46 :: 13 :: [])) 7 false = some (some (9, 10)))
  | [x0, x1, x2, x3, x4, x5, x6, x7], _ => (by kernel_rfl : findP code2 ([x0, x1, x2, x3, x4, x5, x6, x7] ++ (46 :: 46 :: 13 :: [])) 8 false = some (some (10, 11)))
  | [x0, x1, x2, x3, x4, x5, x6, x7, x8], _ => (by kernel_rfl : findP code2 ([x0, x1, x2, x3, x4, x5, x6, x7, x8] ++ (46 :: 46 :: 13 :: [])) 9 false = some (some (11, 12)))
  | [x0, x1, x2, x3, x4, x5, x6, x7, x8, x9], _ => (by kernel_rfl : findP code2 ([x0, x1, x2, x3, x4, x5, x6, x7, x8, x9] ++ (46 :: 46 :: 13 :: [])) 10 false = some (some (12, 13)))
  | [x0, x1, x2, x3, x4, x5, x6, x7, x8, x9, x10], _ => (by kernel_rfl : findP code2 ([x0, x1, x2, x3, x4, x5, x6, x7, x8, x9, x10] ++ (46 :: 46 :: 13 :: [])) 11 false = some (some (13, 14)))
  | [x0, x1, x2, x3, x4, x5, x6, x7, x8, x9, x10, x11], _ => (by kernel_rfl : findP code2 ([x0, x1, x2, x3, x4, x5, x6, x7, x8, x9, x10, x11] ++ (46 :: 46 :: 13 :: [])) 12 false = some (some (14, 15)))
  | _ :: _ :: _ :: _ :: _ :: _ :: _ :: _ :: _ :: _ :: _ :: _ :: _ :: _, h => absurd h (by simp only [List.length_cons]; (first | lia | omega))
theorem p_crend_3 : ∀ xs : List Nat, xs.length ≤ 12 → findP code2 (xs ++ (46 :: 46 :: 46 :: 13 :: [])) xs.length false = some (some (xs.length + 3, xs.length + 3 + 1))
  | [], _ => (by kernel_rfl : findP code2 ([] ++ (46 :: 46 :: 46 :: 13 :: [])) 0 false = some (some (3, 4)))
  | [x0], _ => (by kernel_rfl : findP code2 ([x0] ++ (46 :: 46 :: 46 :: 13 :: [])) 1 false = some (some (4, 5)))
  | [x0, x1], _ => (by kernel_rfl : findP code2 ([x0, x1] ++ (46 :: 46 :: 46 :: 13 :: [])) 2 false = some (some (5, 6)))
  | [x0, x1, x2], _ => (by kernel_rfl : findP code2 ([x0, x1, x2] ++ (46 :: 46 :: 46 :: 13 :: [])) 3 false = some (some (6, 7)))
  | [x0, x1, x2, x3], _ => (by kernel_rfl : findP code2 ([x0, x1, x2, x3] ++ (46 :: 46 :: 46 :: 13 :: [])) 4 false = some (some (7, 8)))
  | [x0, x1, x2, x3, x4], _ => (by kernel_rfl : findP code2 ([x0, x1, x2, x3, x4] ++ (46 :: 46 :: 46 :: 13 :: [])) 5 false = some (some (8, 9)))
  | [x0, x1, x2, x3, x4, x5], _ => (by kernel_rfl : findP code2 ([x0, x1, x2, x3, x4, x5] ++ (46 :: 46 :: 46 :: 13 :: [])) 6 false = some (some (9, 10)))
  | [x0, x1, x2, x3, x4, x5, x6], _ => (by kernel_rfl : findP code2 ([x0, x1, x2, x3, x4, x5, x6] ++ (46 :: 46 :: 46 :: 13 :: [])) 7 false = some (some (10, 11)))
  | [x0, x1, x2, x3, x4, x5, x6, x7], _ => (by kernel_rfl : findP code2 ([x0, x1, x2, x3, x4, x5, x6, x7] ++ (46 :: 46 :: 46 :: 13 :: [])) 8 false = some (some (11, 12)))
  | [x0, x1, x2, x3, x4, x5, x6, x7, x8], _ => (by kernel_rfl : findP code2 ([x0, x1, x2, x3, x4, x5, x6, x7, x8] ++ (46 :: 46 :: 46 :: 13 :: [])) 9 false = some (some (12, 13)))
  | [x0, x1, x2, x3, x4, x5, x6, x7, x8, x9], _ => (by kernel_rfl : findP code2 ([x0, x1, x2, x3, x4, x5, x6, x7, x8, x9] ++ (46 :: 46 :: 46 :: 13 :: [])) 10 false = some (some (13, 14)))
  | [x0, x1, x2, x3, x4, x5, x6, x7, x8, x9, x10], _ => (by kernel_rfl : findP code2 ([x0, x1, x2, x3, x4, x5, x6, x7, x8, x9, x10] ++ (46 :: 46 :: 46 :: 13 :: [])) 11 false = some (some (14, 15)))
  | [x0, x1, x2, x3, x4, x5, x6, x7, x8, x9, x10, x11], _ => (by kernel_rfl : findP code2 ([x0, x1, x2, x3, x4, x5, x6, x7, x8, x9, x10, x11] ++ (46 :: 46 :: 46 :: 13 :: [])) 12 false = some (some (15, 16)))
  | _ :: _ :: _ :: _ :: _ :: _ :: _ :: _ :: _ :: _ :: _ :: _ :: _ :: _, h => absurd h (by simp only [List.length_cons]; (first | lia | omega))
theorem p_crend_4 : ∀ xs : List Nat, xs.length ≤ 12 → findP code2 (xs ++ (46 :: 46 :: 46 :: 46 :: 13 :: [])) xs.length false = some (some (xs.length + 4, xs.length + 4 + 1))
  | [], _ => (by kernel_rfl : findP code2 ([] ++ (46 :: 46 :: 46 :: 46 :: 13 :: [])) 0 false = some (some (4, 5)))
  | [x0], _ => (by kernel_rfl : findP code2 ([x0] ++ (46 :: 46 :: 46 :: 46 :: 13 :: [])) 1 false = some (some (5, 6)))
  | [x0, x1], _ => (by kernel_rfl : findP code2 ([x0, x1] ++ (46 :: 46 :: 46 :: 46 :: 13 :: [])) 2 false = some (some (6, 7)))
  | [x0, x1, x2], _ => (by kernel_rfl : findP code2 ([x0, x1, x2] ++ (46 :: 46 :: 46 :: 46 :: 13 :: [])) 3 false = some (some (7, 8)))
  | [x0, x1, x2, x3], _ => (by kernel_rfl : findP code2 ([x0, x1, x2, x3] ++ (46 :: 46 :: 46 :: 46 :: 13 :: [])) 4 false = some (some (8, 9)))
  | [x0, x1, x2, x3, x4], _ => (by kernel_rfl : findP code2 ([x0, x1, x2, x3, x4] ++ (46 :: 46 :: 46 :: 46 :: 13 :: [])) 5 false = some (some (9, 10)))
  | [x0, x1, x2, x3, x4, x5], _ => (by kernel_rfl : findP code2 ([x0, x1, x2, x3, x4, x5] ++ (46 :: 46 :: 46 :: 46 :: 13 :: [])) 6 false = some (some (10, 11)))
  | [x0, x1, x2, x3, x4, x5, x6], _ => (by kernel_rfl : findP code2 ([x0, x1, x2, x3, x4, x5, x6] ++ (46 :: 46 :: 46 :: 46 :: 13 :: [])) 7 false = some (some (11, 12)))
  | [x0, x1, x2, x3, x4, x5, x6, x7], _ => (by kernel_rfl : findP code2 ([x0, x1, x2, x3, x4, x5, x6, x7] ++ (46 :: 46 :: 46 :: 46 :: 13 :: [])) 8 false = some (some (12, 13)))
  | [x0, x1, x2, x3, x4, x5, x6, x7, x8], _ => (by kernel_rfl : findP code2 ([x0, x1, x2, x3, x4, x5, x6, x7, x8] ++ (46 :: 46 :: 46 :: 46 :: 13 :: [])) 9 false = some (some (13, 14)))
  | [x0, x1, x2, x3, x4, x5, x6, x7, x8, x9], _ => (by kernel_rfl : findP code2 ([x0, x1, x2, x3, x4, x5, x6, x7, x8, x9] ++ (46 :: 46 :: 46 :: 46 :: 13 :: [])) 10 false = some (some (14, 15)))
  | [x0, x1, x2, x3, x4, x5, x6, x7, x8, x9, x10], _ => (by kernel_rfl : findP code2 ([x0, x1, x2, x3, x4, x5, x6, x7, x8, x9, x10] ++ (46 :: 46 :: 46 :: 46 :: 13 :: [])) 11 false = some (some (15, 16)))
  | [x0, x1, x2, x3, x4, x5, x6, x7, x8, x9, x10, x11], _ => (by kernel_rfl : findP code2 ([x0, x1, x2, x3, x4, x5, x6, x7, x8, x9, x10, x11] ++ (46 :: 46 :: 46 :: 46 :: 13 :: [])) 12 false = some (some (16, 17)))
  | _ :: _ :: _ :: _ :: _ :: _ :: _ :: _ :: _ :: _ :: _ :: _ :: _ :: _, h => absurd h (by simp only [List.length_cons]; (first | lia | omega))
theorem p_end : ∀ xs : List Nat, xs.length ≤ 24 → findP code2 xs xs.length false = some none
  | [], _ => (by kernel_rfl : findP code2 [] 0 false = some none)
  | [x0], _ => (by kernel_rfl : findP code2 [x0] 1 false = some none)
  | [x0, x1], _ => (by kernel_rfl : findP code2 [x0, x1] 2 false = some none)
  | [x0, x1, x2], _ => (by kernel_rfl : findP code2 [x0, x1, x2] 3 false = some none)
  | [x0, x1, x2, x3], _ => (by kernel_rfl : findP code2 [x0, x1, x2, x3] 4 false = some none)
  | [x0, x1, x2, x3, x4], _ => (by kernel_rfl : findP code2 [x0, x1, x2, x3, x4] 5 false = some none)
  | [x0, x1, x2, x3, x4, x5], _ => (by kernel_rfl : findP code2 [x0, x1, x2, x3, x4, x5] 6 false = some none)
  | [x0, x1, x2, x3, x4, x5, x6], _ => (by kernel_rfl : findP code2 [x0, x1, x2, x3, x4, x5, x6] 7 false = some none)
  | [x0, x1, x2, x3, x4, x5, x6, x7], _ => (by kernel_rfl : findP code2 [x0, x1, x2, x3, x4, x5, x6, x7] 8 false = some none)
  | [x0, x1, x2, x3, x4, x5, x6, x7, x8], _ => (by kernel_rfl : findP code2 [x0, x1, x2, x3, x4, x5, x6, x7, x8] 9 false = some none)
  | [x0, x1, x2, x3, x4, x5, x6, x7, x8, x9], _ => (by kernel_rfl : findP code2 [x0, x1, x2, x3, x4, x5, x6, x7, x8, x9] 10 false = some none)
  | [x0, x1, x2, x3, x4, x5, x6, x7, x8, x9, x10], _ => (by kernel_rfl : findP code2 [x0, x1, x2, x3, x4, x5, x6, x7, x8, x9, x10] 11 false = some none)
  | [x0, x1, x2, x3, x4, x5, x6, x7, x8, x9, x10, x11], _ => (by kernel_rfl : findP code2 [x0, x1, x2, x3, x4, x5, x6, x7, x8, x9, x10, x11] 12 false = some none)
  | [x0, x1, x2, x3, x4, x5, x6, x7, x8, x9, x10, x11, x12], _ => (by kernel_rfl : findP code2 [x0, x1, x2, x3, x4, x5, x6, x7, x8, x9, x10, x11, x12] 13 false = some none)
  | [x0, x1, x2, x3, x4, x5, x6, x7, x8, x9, x10, x11, x12, x13], _ => (by kernel_rfl : findP code2 [x0, x1, x2, x3, x4, x5, x6, x7, x8, x9, x10, x11, x12, x13] 14 false = some none)
  | [x0, x1, x2, x3, x4, x5, x6, x7, x8, x9, x10, x11, x12, x13, x14], _ => (by kernel_rfl : findP code2 [x0, x1, x2, x3, x4, x5, x6, x7, x8, x9, x10, x11, x12, x13, x14] 15 false = some none)
  | [x0, x1, x2, x3, x4, x5, x6, x7, x8, x9, x10, x11, x12, x13, x14, x15], _ => (by kernel_rfl : findP code2 [x0, x1, x2, x3, x4, x5, x6, x7, x8, x9, x10, x11, x12, x13, x14, x15] 16 false = some none)
  | [x0, x1, x2, x3, x4, x5, x6, x7, x8, x9, x10, x11, x12, x13, x14, x15, x16], _ => (by kernel_rfl : findP code2 [x0, x1, x2, x3, x4, x5, x6, x7, x8, x9, x10, x11, x12, x13, x14, x15, x16] 17 false = some none)
  | [x0, x1, x2, x3, x4, x5, x6, x7, x8, x9, x10, x11, x12, x13, x14, x15, x16, x17], _ => (by kernel_rfl : findP code2 [x0, x1, x2, x3, x4, x5, x6, x7, x8, x9, x10, x11, x12, x13, x14, x15, x16, x17] 18 false = some none)
  | [x0, x1, x2, x3, x4, x5, x6, x7, x8, x9, x10, x11, x12, x13, x14, x15, x16, x17, x18], _ => (by kernel_rfl : findP code2 [x0, x1, x2, x3, x4, x5, x6, x7, x8, x9, x10, x11, x12, x13, x14, x15, x16, x17, x18] 19 false = some none)
  | [x0, x1, x2, x3, x4, x5, x6, x7, x8, x9, x10, x11, x12, x13, x14, x15, x16, x17, x18, x19], _ => (by kernel_rfl : findP code2 [x0, x1, x2, x3, x4, x5, x6, x7, x8, x9, x10, x11, x12, x13, x14, x15, x16, x17, x18, x19] 20 false = some none)
  | [x0, x1, x2, x3, x4, x5, x6, x7, x8, x9, x10, x11, x12, x13, x14, x15, x16, x17, x18, x19, x20], _ => (by kernel_rfl : findP code2 [x0, x1, x2, x3, x4, x5, x6, x7, x8, x9, x10, x11, x12, x13, x14, x15, x16, x17, x18, x19, x20] 21 false = some none)
  | [x0, x1, x2, x3, x4, x5, x6, x7, x8, x9, x10, x11, x12, x13, x14, x15, x16, x17, x18, x19, x20, x21], _ => (by kernel_rfl : findP code2 [x0, x1, x2, x3, x4, x5, x6, x7, x8, x9, x10, x11, x12, x13, x14, x15, x16, x17, x18, x19, x20, x21] 22 false = some none)
  | [x0, x1, x2, x3, x4, x5, x6, x7, x8, x9, x10, x11, x12, x13, x14, x15, x16, x17, x18, x19, x20, x21, x22], _ => (by kernel_rfl : findP code2 [x0, x1, x2, x3, x4, x5, x6, x7, x8, x9, x10, x11, x12, x13, x14, x15, x16, x17, x18, x19, x20, x21, x22] 23 false = some none)
  | [x0, x1, x2, x3, x4, x5, x6, x7, x8, x9, x10, x11, x12, x13, x14, x15, x16, x17, x18, x19, x20, x21, x22, x23], _ => (by kernel_rfl : findP code2 [x0, x1, x2, x3, x4, x5, x6, x7, x8, x9, x10, x11, x12, x13, x14, x15, x16, x17, x18, x19, x20, x21, x22, x23] 24 false = some none)
  | _ :: _ :: _ :: _ :: _ :: _ :: _ :: _ :: _ :: _ :: _ :: _ :: _ :: _ :: _ :: _ :: _ :: _ :: _ :: _ :: _ :: _ :: _ :: _ :: _ :: _, h => absurd h (by simp only [List.length_cons]; (first | lia | omega))
end Mine
/-! part 38 -/
namespace Mine
open PySem PySem.Calls PyProof.Rows
section
variable {B : Base} {n : Nat} {xs : Names} {gs : List Str}
theorem fn_okC {a : Addr} {o : Obj} {fd : FuncData} {body : List Stmt} {np : Nat} {g : S} (hlim : B.h₁.NoLimit) (ho : B.h₁.get? a = some o) (hd : o.data = .func fd) (hbody : fd.body = .stmts body) (hclo : fd.closure = []) (hgl : fd.globals = mainGlobals) (hbu : fd.builtins = builtinsNs)
    (hcd : B.h₁.CodeRec fd.code fd.qualname) (hsc : FScope fd.scope xs gs) (hnp : np ≤ xs.length) (hbind : ∀ vals : List Value, vals.length = np → bindArgs fd ⟨vals, []⟩ = pure (((xs.map (·.1)).take np).zip vals)) (h : ExecL B n xs gs body g) :
    ∀ (A : Around) (F : Fz) (s : Shared) (vals : List Value) (ps : List V) (p : V) (R : Result → Shared → Prop), AOk (n + 1) A → St B F s.heap → Reps F vals ps → pfn xs np g ps = some p →
      (∀ v s' F', Next B F s F' s' → Rep F' v p → R (.ok (.ret v)) s') → codeAny (model prg B.w) A (.call (.ref a) ⟨vals, []⟩) R s := by
  intro A F s vals ps p R hA S r hf hQ
  unfold pfn at hf
  split at hf
  · rename_i hlen
    obtain ⟨⟨fl, Γ', σ'⟩, eg, hf⟩ := Option.bind_eq_some_iff.mp hf
    have hvl : vals.length = np := by rw [r.length]; exact hlen
    have kb : ∀ b o, B.h₁.get? b = some o → s.heap.get? b = some o := fun b o e => S.sub _ _ (S.base _ _ e)
    refine codeAny_call_cells (by have := hA.depth; (first | lia | omega)) (kb _ _ ho) hd (hlim.keeps kb) (hcd.keeps kb) hbody (hbind vals hvl) hclo (fun x hx => ?_) (fun s₁ x => ?_) hsc.co hsc.gen hsc.kind
    · -- the parameters' kinds
      have hx1 : x.1 ∈ xs.map (·.1) := List.mem_of_mem_take (List.of_mem_zip (a := x.1) (b := x.2) hx).1
      obtain ⟨⟨y, k⟩, hy, e⟩ := List.mem_map.mp hx1
      rcases hsc.knd y k hy with ⟨_, q⟩ | ⟨_, q⟩
      · exact .inl (by rw [← e]; exact q)
      · refine .inr ⟨by rw [← e]; exact q, ?_⟩
        obtain ⟨c, h1, _⟩ := cellsFrom_has fd.scope.names (s.heap.objs.size + 1) [] (mem_of_lookup' q)
        rw [← e, h1]; rfl
    · have hn1 : ((((xs.map (·.1)).take np).zip vals).map (·.1)).Nodup := by
        rw [List.map_fst_zip (by simp; (first | lia | omega))]
        exact hsc.names.sublist (List.take_sublist ..)
      have hnone : s.heap.get? s.heap.objs.size = none := get_size _
      obtain ⟨h1, tk, hs1⟩ := x.toInCall.same
      have hkk := x.toInCall.keep
      have hab : ∀ y c, (callEnvC fd s.heap.objs.size a).cells.lookup y = some c → s.heap.objs.size < c := fun y c e => x.above y c (mem_of_lookup e)
      have hR : Rd F [] xs gs (callEnvC fd s.heap.objs.size a) (ps.map .val ++ List.replicate (xs.length - np) .undef) s₁.heap := {
        glob := hgl, bui := hbu, fn := hsc.kind, names := hsc.names, nodbg := hsc.nodbg
        len := by simp [hlen]; (first | lia | omega)
        knd := fun y k hm => by
          rcases hsc.knd y k hm with ⟨rfl, q⟩ | ⟨rfl, q⟩
          · exact q
          · obtain ⟨c, h1, _⟩ := cellsFrom_has fd.scope.names (s.heap.objs.size + 1) [] (mem_of_lookup' q)
            exact ⟨q, c, h1⟩
        gl := fun y hy => hsc.glob y hy
        has := fun i y k p e1 e2 hp => by
          by_cases hlt : i < ps.length
          · rw [List.getElem?_append_left (by simpa using hlt), List.getElem?_map] at e2
            obtain ⟨q, eq, rfl⟩ := Option.map_eq_some_iff.mp e2
            obtain ⟨v, ev, rv⟩ := r.get' eq
            have hmem : (y, v) ∈ ((xs.map (·.1)).take np).zip vals := by
              refine List.mem_of_getElem? (i := i) ?_
              rw [List.getElem?_zip_eq_some]
              exact ⟨by rw [List.getElem?_take_of_lt (by (first | lia | omega))]; simp [e1], ev⟩
            rcases hsc.knd y k (List.mem_of_getElem? e1) with ⟨rfl, q'⟩ | ⟨rfl, q'⟩
            · rw [if_pos rfl]
              exact ⟨_, v, x.toInCall.ns, bindL_at _ _ hn1 hmem q', rv⟩
            · rw [if_neg (by decide)]
              obtain ⟨c, h1, _⟩ := cellsFrom_has fd.scope.names (s.heap.objs.size + 1) [] (mem_of_lookup' q')
              have := x.cell y c h1
              rw [bindC_at _ _ hn1 hmem q'] at this
              exact ⟨c, v, h1, this, rv⟩
          · rw [List.getElem?_append_right (by simpa using Nat.not_lt.mp hlt), List.getElem?_replicate] at e2
            split at e2
            · cases e2; exact absurd rfl hp
            · cases e2
        loc := ⟨_, x.toInCall.ns⟩
        cel := fun y c e => ⟨_, x.cell y c e⟩
        apart := fun y z c e1 e2 => name_of_addr x.apart (mem_of_lookup e1) (mem_of_lookup e2)
        locC := fun y c e => Nat.ne_of_gt (hab y c e)
        locF := ⟨S.none hnone, S.notTab hnone, by simp⟩
        celF := fun y c e => by
          have hn : s.heap.get? c = none := get_ge (Nat.le_of_lt (hab y c e))
          exact ⟨S.none hn, S.notTab hn, by simp⟩ }
      have n₁ : Next B F s F s₁ := by rw [hs1] at hkk ⊢; exact Next.keeps S hkk
      have hA' : AOk n (A.deeper (callEnvC fd s.heap.objs.size a)) := ⟨hA.handled, by have := hA.depth; show A.depth + 1 + 8 * n < _; (first | lia | omega), by have := hA.units; show A.units + 3 + 100 * n < _; (first | lia | omega)⟩
      refine h _ _ F [] _ [] s₁ _ hA' n₁.st hR Mu.none' eg _ _ fun v s₂ F₂ μ₂ n₂ r₂ => ?_
      obtain ⟨hfl, R₂, X₂⟩ := r₂
      have hown : ∀ b, Own (callEnvC fd s.heap.objs.size a) xs b → s.heap.get? b = none := by
        rintro b (rfl | ⟨y, _, e⟩)
        · exact hnone
        · exact get_ge (Nat.le_of_lt (hab y b e))
      obtain ⟨h2, t2, hs2⟩ := n₂.shape
      have N : Next B F s F₂ s₂ := ⟨by rw [hs2, hs1]; exact ⟨h2, t2, rfl⟩, n₂.ext, n₂.st, fun b o hb e => n₂.keep b o hb (fun q => by rw [hown b q] at e; cases e) (by simp) (n₁.keep b o hb e), fun b o e => by
        rcases n₂.new b o e with e | e | e
        · exact .inl e
        · exact .inr (n₁.gone e)
        · simp at e⟩
      cases fl with
      | ret q =>
        cases v <;> try exact hfl.elim
        cases hf; exact hQ _ s₂ F₂ N hfl
      | next =>
        cases v <;> try exact hfl.elim
        cases hf; exact hQ _ s₂ F₂ N .none
      | brk => cases hf
      | cont => cases hf
  · cases hf
end
theorem law_ok {B : Base} (ok : BaseOk B) : ∀ (A : Around) (F : Fz) (s : Shared) (vals : List Value) (ps : List V) (p : V) (R : Result → Shared → Prop), AOk 61 A → St B F s.heap → Reps F vals ps → pfn xs_law 1 walk_law.1 ps = some p →
      (∀ v s' F', Next B F s F' s' → Rep F' v p → R (.ok (.ret v)) s') → codeAny (model prg B.w) A (.call (.ref 216) ⟨vals, []⟩) R s :=
  fn_okC (np := 1) (gs := gs_law) (body := bodyOf 216) ok.lim (ok.frag 216 _ rfl) rfl rfl rfl rfl rfl (PySem.W.codeRec_of ok.frag rfl) (fscope_of (by decide +kernel)) (by decide) (vals1 fun _ => rfl) (walk_law.2 B ok)
end Mine
/-! part 39 -/
namespace Mine
open PySem PySem.Calls PyProof.Rows PySem.W
theorem reps_ints {F : Fz} : ∀ {vs : List Value} {ns : List Int}, IntsAre vs ns → Reps F vs (ns.map V.int)
  | _, _, .nil => .nil
  | _, _, .cons n t h => .cons (.int n t) (reps_ints h)
theorem join2 (pure' : ∀ ns : List Int, ns.length ≤ 63 → pfn xs_law 1 walk_law.1 [.list (ns.map .int)] = some (.bool true)) {w : World} {s₀ s₁ : Shared} {mg mb : Str → Option Value} {p : Program} {loose : List Str} {mean : ExcName → Option Value} {ns : List Int} {l : Addr} {vs : List Value} (hg : s₁.gens = #[])
    (T : Top p loose mean mg mb s₁.heap) (K : (hd.heap_39 w.params).In s₁.heap) (hT8 : ∀ P : Addr, P ∈ [75, 68] → s₁.heap.get? P = some (tabObj #[])) (hL : s₁.heap.IsList l vs.toArray) (w1 : Well w.params s₁.heap (.ref l) (ofPy (.list (ns.map .int)))) (hI : IntsAre vs ns) (hlen : ns.length ≤ 63) (hs : Spec.Shape.int.list.has (PyData.list (List.map PyData.int ns)) = true) :
    wpAny (model Challenge.rw_sc0100_01.row.prog w) callerA (call (.ref 216) [.ref l])
      (fun v s' => GoodWG Challenge.rw_sc0100_01.row.claim (classAt s₀.heap) (ExcName.means s₀.heap) [ofPy (PyData.list (List.map PyData.int ns))] s₁ (Except.ok (Flow.ret v)) s')
      (fun e s' => GoodWG Challenge.rw_sc0100_01.row.claim (classAt s₀.heap) (ExcName.means s₀.heap) [ofPy (PyData.list (List.map PyData.int ns))] s₁ (Except.error e) s') s₁ := by
  have hT9 : TabsAt [(79, 75), (72, 68)] s₁.heap := fun q hq => by
    simp only [List.mem_cons, List.not_mem_nil, or_false] at hq
    rcases hq with rfl | rfl
    · exact ⟨codeHd_of_K K rfl, hT8 75 (by simp)⟩
    · exact ⟨codeHd_of_K K rfl, hT8 68 (by simp)⟩
  have TG := ghost_top hT9 T
  have KG := ghost_K hT9 K (by rfl)
  let B : Base := ⟨w, ghostOf s₁.heap [(79, 75), (72, 68)]⟩
  have ok : BaseOk B := ⟨KG, TG.nolimit, ⟨mg, TG.g, TG.bmain⟩, ⟨mb, TG.b, TG.builtins⟩⟩
  have S : St B (ghostOf s₁.heap [(79, 75), (72, 68)]).get? s₁.heap := ⟨fun a o e => of_hideAll _ e, fun a o e => e, fun P hP => ⟨⟨#[], hT8 P hP, .inl rfl⟩, hideAll_none _ (by simpa [tabs] using hP)⟩⟩
  have hA : AOk 61 callerA := ⟨rfl, by decide, by decide⟩
  have r : Rep (ghostOf s₁.heap [(79, 75), (72, 68)]).get? (.ref l) (.list (ns.map .int)) := by
    unfold ofPy at w1
    cases w1 with
    | @list _ vs' _ e hall =>
      obtain ⟨o, ho, _, k, hdat⟩ := hL
      rw [e] at ho
      cases ho
      have : vs = vs' := by
        have := hdat
        simp only [Data.seq.injEq] at this
        have := congrArg Array.toList this.1
        simpa using this.symm
      subst this
      exact .list (ghost_get hT9 e (fun h => by cases h)) (reps_ints hI) (by rw [List.length_map]; unfold lim; (first | lia | omega))
  refine enter_call ?_
  refine kn_post hT9 (fun _ _ => rfl) ?_
  refine law_ok ok callerA _ s₁ [.ref l] [.list (ns.map .int)] (.bool true) _ hA S (.cons r .nil) (pure' ns hlen) fun v s' F' N rv => ?_
  cases rv
  obtain ⟨h', tk, rfl⟩ := N.shape
  have hpost : Challenge.rw_sc0100_01.row.claim.post [ofPy (PyData.list (List.map PyData.int ns))] (.bool true) [ofPy (PyData.list (List.map PyData.int ns))] = true := by kc_post
  refine ⟨⟨.inl ⟨_, .bool true, [], rfl, fun _ => rfl, .bool true, hpost, fun _ => ⟨List.nodup_nil, fun a h => by cases h⟩⟩, fun b o e => N.st.sub _ _ (N.ext _ _ e), rfl, hg⟩, ?_⟩
  obtain ⟨v1, e1, _⟩ := (N.st.tab 75 (by simp [tabs])).1
  obtain ⟨v2, e2, _⟩ := (N.st.tab 68 (by simp [tabs])).1
  exact ⟨⟨v1, e1⟩, ⟨v2, e2⟩, trivial⟩
set_option maxRecDepth 100000 in
set_option maxHeartbeats 8000000 in
theorem join (pure' : ∀ ns : List Int, ns.length ≤ 63 → pfn xs_law 1 walk_law.1 [.list (ns.map .int)] = some (.bool true)) : PySem.Challenge.rw_sc0100_01.Holds := hd (by
  k_fill
  intro w s₀ s₁ mg mb G Y fa o pm cd doc dV kV ho hd' hcd hD hmg hg args vals as hpre hlay hrd hwl hlo
  have T := G.T
  have K := km_in_of Y
  have hT8 := km_tabs_of Y
  have hfa : mg (Str.ofString "law") = some (.ref 216) := mg_of K T.g (by rfl)
  have hfa' : fa = 216 := by
    have := hmg.symm.trans hfa
    cases this; rfl
  subst hfa'
  clear hD hmg hcd hd' ho
  wrow_args hpre hlay hrd hwl hlo
  rename_i ns hs h0 hl1 hr1 hl2 as1 as2 l vs as3 hL ra w1 r0 hI hr hlen htr
  exact join2 pure' hg T K hT8 hL w1 hI (by (first | lia | omega)) hs)
end Mine
/-! part 40 -/
namespace Mine
open PySem PySem.Calls PyProof.Rows
noncomputable abbrev I (l : List Int) : V := .list (l.map .int)
/-- the six numbers -/
theorem numbers_ok (ns : List Int) : ∃ a b c d e f : Int, w_law_numbers.1 [I ns] = some (I [a, b, c, d, e, f]) ∧ (0 ≤ a ∧ 0 ≤ b ∧ 0 ≤ c ∧ 0 ≤ d ∧ 0 ≤ e ∧ 0 ≤ f) := by
  have h : ∀ x : Int, 0 ≤ x.fmod 1000000 := fun x => Int.fmod_nonneg_of_pos x (by decide)
  match ns with
  | [] => exact ⟨0, 13, 7, 0, 1, 3, (by kernel_rfl), by decide⟩
  | [a] => exact ⟨a.fmod 1000000, 13, 7, 0, 1, 3, (by kernel_rfl), h a, by decide, by decide, by decide, by decide, by decide⟩
  | [a, b] => exact ⟨a.fmod 1000000, b.fmod 1000000, 7, 0, 1, 3, (by kernel_rfl), h a, h b, by decide, by decide, by decide, by decide⟩
  | [a, b, c] => exact ⟨a.fmod 1000000, b.fmod 1000000, c.fmod 1000000, 0, 1, 3, (by kernel_rfl), h a, h b, h c, by decide, by decide, by decide⟩
  | [a, b, c, d] => exact ⟨a.fmod 1000000, b.fmod 1000000, c.fmod 1000000, d.fmod 1000000, 1, 3, (by kernel_rfl), h a, h b, h c, h d, by decide, by decide⟩
  | [a, b, c, d, e] => exact ⟨a.fmod 1000000, b.fmod 1000000, c.fmod 1000000, d.fmod 1000000, e.fmod 1000000, 3, (by kernel_rfl), h a, h b, h c, h d, h e, by decide⟩
  | a :: b :: c :: d :: e :: f :: r => exact ⟨a.fmod 1000000, b.fmod 1000000, c.fmod 1000000, d.fmod 1000000, e.fmod 1000000, f.fmod 1000000, (by kernel_rfl), h a, h b, h c, h d, h e, h f⟩
end Mine
/-! part 41 -/
namespace Mine
open PySem PySem.Calls PyProof.Rows
theorem lev_dots (b : Int) : ∀ n m : Nat, n ≤ 7 → m ≤ 7 → w_levenshtein_distance.1 [.str (List.replicate n 46), .str (List.replicate m 46), .int b] = some (.int (2 * (((n : Int) - m).natAbs : Int)))
  | 0, 0, _, _ => (by kernel_rfl : w_levenshtein_distance.1 [.str (List.replicate 0 46), .str (List.replicate 0 46), .int b] = some (.int 0))
  | 0, 1, _, _ => (by kernel_rfl : w_levenshtein_distance.1 [.str (List.replicate 0 46), .str (List.replicate 1 46), .int b] = some (.int 2))
  | 0, 2, _, _ => (by kernel_rfl : w_levenshtein_distance.1 [.str (List.replicate 0 46), .str (List.replicate 2 46), .int b] = some (.int 4))
  | 0, 3, _, _ => (by kernel_rfl : w_levenshtein_distance.1 [.str (List.replicate 0 46), .str (List.replicate 3 46), .int b] = some (.int 6))
  | 0, 4, _, _ => (by kernel_rfl : w_levenshtein_distance.1 [.str (List.replicate 0 46), .str (List.replicate 4 46), .int b] = some (.int 8))
  | 0, 5, _, _ => (by kernel_rfl : w_levenshtein_distance.1 [.str (List.replicate 0 46), .str (List.replicate 5 46), .int b] = some (.int 10))
  | 0, 6, _, _ => (by kernel_rfl : w_levenshtein_distance.1 [.str (List.replicate 0 46), .str (List.replicate 6 46), .int b] = some (.int 12))
  | 0, 7, _, _ => (by kernel_rfl : w_levenshtein_distance.1 [.str (List.replicate 0 46), .str (List.replicate 7 46), .int b] = some (.int 14))
  | 1, 0, _, _ => (by kernel_rfl : w_levenshtein_distance.1 [.str (List.replicate 1 46), .str (List.replicate 0 46), .int b] = some (.int 2))
  | 1, 1, _, _ => (by kernel_rfl : w_levenshtein_distance.1 [.str (List.replicate 1 46), .str (List.replicate 1 46), .int b] = some (.int 0))
  | 1, 2, _, _ => (by kernel_rfl : w_levenshtein_distance.1 [.str (List.replicate 1 46), .str (List.replicate 2 46), .int b] = some (.int 2))
  | 1, 3, _, _ => (by kernel_rfl : w_levenshtein_distance.1 [.str (List.replicate 1 46), .str (List.replicate 3 46), .int b] = some (.int 4))
  | 1, 4, _, _ => (by kernel_rfl : w_levenshtein_distance.1 [.str (List.replicate 1 46), .str (List.replicate 4 46), .int b] = some (.int 6))
  | 1, 5, _, _ => (by kernel_rfl : w_levenshtein_distance.1 [.str (List.replicate 1 46), .str (List.replicate 5 46), .int b] = some (.int 8))
  | 1, 6, _, _ => (by kernel_rfl : w_levenshtein_distance.1 [.str (List.replicate 1 46), .str (List.replicate 6 46), .int b] = some (.int 10))
  | 1, 7, _, _ => (by kernel_rfl : w_levenshtein_distance.1 [.str (List.replicate 1 46), .str (List.replicate 7 46), .int b] = some (.int 12))
  | 2, 0, _, _ => (by kernel_rfl : w_levenshtein_distance.1 [.str (List.replicate 2 46), .str (List.replicate 0 46), .int b] = some (.int 4))
  | 2, 1, _, _ => (by kernel_rfl : w_levenshtein_distance.1 [.str (List.replicate 2 46), .str (List.replicate 1 46), .int b] = some (.int 2))
  | 2, 2, _, _ => (by kernel_rfl : w_levenshtein_distance.1 [.str (List.replicate 2 46), .str (List.replicate 2 46), .int b] = some (.int 0))
  | 2, 3, _, _ => (by kernel_rfl : w_levenshtein_distance.1 [.str (List.replicate 2 46), .str (List.replicate 3 46), .int b] = some (.int 2))
  | 2, 4, _, _ => (by kernel_rfl : w_levenshtein_distance.1 [.str (List.replicate 2 46), .str (List.replicate 4 46), .int b] = some (.int 4))
  | 2, 5, _, _ => (by kernel_rfl : w_levenshtein_distance.1 [.str (List.replicate 2 46), .str (List.replicate 5 46), .int b] = some (.int 6))
  | 2, 6, _, _ => (by kernel_rfl : w_levenshtein_distance.1 [.str (List.replicate 2 46), .str (List.replicate 6 46), .int b] = some (.int 8))
  | 2, 7, _, _ => (by kernel_rfl : w_levenshtein_distance.1 [.str (List.replicate 2 46), .str (List.replicate 7 46), .int b] = some (.int 10))
  | 3, 0, _, _ => (by kernel_rfl : w_levenshtein_distance.1 [.str (List.replicate 3 46), .str (List.replicate 0 46), .int b] = some (.int 6))
  | 3, 1, _, _ => (by kernel_rfl : w_levenshtein_distance.1 [.str (List.replicate 3 46), .str (List.replicate 1 46), .int b] = some (.int 4))
  | 3, 2, _, _ => (by kernel_rfl : w_levenshtein_distance.1 [.str (List.replicate 3 46), .str (List.replicate 2 46), .int b] = some (.int 2))
  | 3, 3, _, _ => (by kernel_rfl : w_levenshtein_distance.1 [.str (List.replicate 3 46), .str (List.replicate 3 46), .int b] = some (.int 0))
  | 3, 4, _, _ => (by kernel_rfl : w_levenshtein_distance.1 [.str (List.replicate 3 46), .str (List.replicate 4 46), .int b] = some (.int 2))
  | 3, 5, _, _ => (by kernel_rfl : w_levenshtein_distance.1 [.str (List.replicate 3 46), .str (List.replicate 5 46), .int b] = some (.int 4))
  | 3, 6, _, _ => (by kernel_rfl : w_levenshtein_distance.1 [.str (List.replicate 3 46), .str (List.replicate 6 46), .int b] = some (.int 6))
  | 3, 7, _, _ => (by kernel_rfl : w_levenshtein_distance.1 [.str (List.replicate 3 46), .str (List.replicate 7 46), .int b] = some (.int 8))
  | 4, 0, _, _ => (by kernel_rfl : w_levenshtein_distance.1 [.str (List.replicate 4 46), .str (List.replicate 0 46), .int b] = some (.int 8))
  | 4, 1, _, _ => (by kernel_rfl : w_levenshtein_distance.1 [.str (List.replicate 4 46), .str (List.replicate 1 46), .int b] = some (.int 6))
  | 4, 2, _, _ => (by kernel_rfl : w_levenshtein_distance.1 [.str (List.replicate 4 46), .str (List.replicate 2 46), .int b] = some (.int 4))
  | 4, 3, _, _ => (by kernel_rfl : w_levenshtein_distance.1 [.str (List.replicate 4 46), .str (List.replicate 3 46), .int b] = some (.int 2))
  | 4, 4, _, _ => (by kernel_rfl : w_levenshtein_distance.1 [.str (List.replicate 4 46), .str (List.replicate 4 46), .int b] = some (.int 0))
  | 4, 5, _, _ => (by kernel_rfl : w_levenshtein_distance.1 [.str (List.replicate 4 46), .str (List.replicate 5 46), .int b] = some (.int 2))
  | 4, 6, _, _ => (by kernel_rfl : w_levenshtein_distance.1 [.str (List.replicate 4 46), .str (List.replicate 6 46), .int b] = some (.int 4))
  | 4, 7, _, _ => (by kernel_rfl : w_levenshtein_distance.1 [.str (List.replicate 4 46), .str (List.replicate 7 46), .int b] = some (.int 6))
  | 5, 0, _, _ => (by kernel_rfl : w_levenshtein_distance.1 [.str (List.replicate 5 46), .str (List.replicate 0 46), .int b] = some (.int 10))
  | 5, 1, _, _ => (by kernel_rfl : w_levenshtein_distance.1 [.str (List.replicate 5 46), .str (List.replicate 1 46), .int b] = some (.int 8))
  | 5, 2, _, _ => (by kernel_rfl : w_levenshtein_distance.1 [.str (List.replicate 5 46), .str (List.replicate 2 46), .int b] = some (.int 6))
  | 5, 3, _, _ => (by kernel_rfl : w_levenshtein_distance.1 [.str (List.replicate 5 46), .str (List.replicate 3 46), .int b] = some (.int 4))
  | 5, 4, _, _ => (by kernel_rfl : w_levenshtein_distance.1 [.str (List.replicate 5 46), .str (List.replicate 4 46), .int b] = some (.int 2))
  | 5, 5, _, _ => (by kernel_rfl : w_levenshtein_distance.1 [.str (List.replicate 5 46), .str (List.replicate 5 46), .int b] = some (.int 0))
  | 5, 6, _, _ => (by kernel_rfl : w_levenshtein_distance.1 [.str (List.replicate 5 46), .str (List.replicate 6 46), .int b] = some (.int 2))
  | 5, 7, _, _ => (by kernel_rfl : w_levenshtein_distance.1 [.str (List.replicate 5 46), .str (List.replicate 7 46), .int b] = some (.int 4))
  | 6, 0, _, _ => (by kernel_rfl : w_levenshtein_distance.1 [.str (List.replicate 6 46), .str (List.replicate 0 46), .int b] = some (.int 12))
  | 6, 1, _, _ => (by kernel_rfl : w_levenshtein_distance.1 [.str (List.replicate 6 46), .str (List.replicate 1 46), .int b] = some (.int 10))
  | 6, 2, _, _ => (by kernel_rfl : w_levenshtein_distance.1 [.str (List.replicate 6 46), .str (List.replicate 2 46), .int b] = some (.int 8))
  | 6, 3, _, _ => (by kernel_rfl : w_levenshtein_distance.1 [.str (List.replicate 6 46), .str (List.replicate 3 46), .int b] = some (.int 6))
  | 6, 4, _, _ => (by kernel_rfl : w_levenshtein_distance.1 [.str (List.replicate 6 46), .str (List.replicate 4 46), .int b] = some (.int 4))
  | 6, 5, _, _ => (by kernel_rfl : w_levenshtein_distance.1 [.str (List.replicate 6 46), .str (List.replicate 5 46), .int b] = some (.int 2))
  | 6, 6, _, _ => (by kernel_rfl : w_levenshtein_distance.1 [.str (List.replicate 6 46), .str (List.replicate 6 46), .int b] = some (.int 0))
  | 6, 7, _, _ => (by kernel_rfl : w_levenshtein_distance.1 [.str (List.replicate 6 46), .str (List.replicate 7 46), .int b] = some (.int 2))
  | 7, 0, _, _ => (by kernel_rfl : w_levenshtein_distance.1 [.str (List.replicate 7 46), .str (List.replicate 0 46), .int b] = some (.int 14))
  | 7, 1, _, _ => (by kernel_rfl : w_levenshtein_distance.1 [.str (List.replicate 7 46), .str (List.replicate 1 46), .int b] = some (.int 12))
  | 7, 2, _, _ => (by kernel_rfl : w_levenshtein_distance.1 [.str (List.replicate 7 46), .str (List.replicate 2 46), .int b] = some (.int 10))
  | 7, 3, _, _ => (by kernel_rfl : w_levenshtein_distance.1 [.str (List.replicate 7 46), .str (List.replicate 3 46), .int b] = some (.int 8))
  | 7, 4, _, _ => (by kernel_rfl : w_levenshtein_distance.1 [.str (List.replicate 7 46), .str (List.replicate 4 46), .int b] = some (.int 6))
  | 7, 5, _, _ => (by kernel_rfl : w_levenshtein_distance.1 [.str (List.replicate 7 46), .str (List.replicate 5 46), .int b] = some (.int 4))
  | 7, 6, _, _ => (by kernel_rfl : w_levenshtein_distance.1 [.str (List.replicate 7 46), .str (List.replicate 6 46), .int b] = some (.int 2))
  | 7, 7, _, _ => (by kernel_rfl : w_levenshtein_distance.1 [.str (List.replicate 7 46), .str (List.replicate 7 46), .int b] = some (.int 0))
  | n + 8, m, h, _ => absurd h (by (first | lia | omega))
  | n, m + 8, _, h => absurd h (by (first | lia | omega))
end Mine
/-! part 42 -/
namespace Mine
open PySem PySem.Calls PyProof.Rows
theorem subP_step {code rep text : List Nat} {k s d o : Nat} {acc : List (List Nat)} (hf : findP code text s false = some (some (s + d, s + d + o))) (hd : 0 < d) (ho : 0 < o) :
    subP code rep text (k + 1) s false acc = subP code rep text k (s + d + o) false (acc ++ [cutT text s (s + d)] ++ [rep]) := by
  have h1 : s < s + d := by (first | lia | omega)
  have h2 : (s + d + o == s + d) = false := by simp; (first | lia | omega)
  conv => lhs; unfold subP
  simp only [hf, Option.bind_some, if_pos h1, h2]
theorem subP_end {code rep text : List Nat} {k s : Nat} {acc : List (List Nat)} (hf : findP code text s false = some none) (hs : text.length ≤ s) : subP code rep text (k + 1) s false acc = some acc := by
  have h1 : ¬ s < text.length := by (first | lia | omega)
  conv => lhs; unfold subP
  simp only [hf, Option.bind_some, if_neg h1]
theorem cut_mid (xs ds ys : List Nat) : cutT (xs ++ (ds ++ ys)) xs.length (xs.length + ds.length) = ds := by
  unfold cutT
  simp
noncomputable def ends : List (List Nat) := [[10], [13], [13, 10]]
noncomputable def behind (ys : List Nat) : Prop := ys = [] ∨ ∃ zs, ys = 46 :: zs
theorem find_row {xs ys e : List Nat} {d : Nat} (hx : xs.length ≤ 12) (h1 : 1 ≤ d) (h2 : d ≤ 4) (he : e ∈ ends) (hy : behind ys) : findP code2 (xs ++ (List.replicate d 46 ++ (e ++ ys))) xs.length false = some (some (xs.length + d, xs.length + d + e.length)) := by
  simp only [ends, List.mem_cons, List.not_mem_nil, or_false] at he
  match d, h1, h2 with
  | 1, _, _ =>
    rcases he with rfl | rfl | rfl
    · exact p_lf_1 ys xs hx
    · rcases hy with rfl | ⟨zs, rfl⟩
      · exact p_crend_1 xs hx
      · exact p_crdot_1 zs xs hx
    · exact p_crlf_1 ys xs (by (first | lia | omega))
  | 2, _, _ =>
    rcases he with rfl | rfl | rfl
    · exact p_lf_2 ys xs hx
    · rcases hy with rfl | ⟨zs, rfl⟩
      · exact p_crend_2 xs hx
      · exact p_crdot_2 zs xs hx
    · exact p_crlf_2 ys xs (by (first | lia | omega))
  | 3, _, _ =>
    rcases he with rfl | rfl | rfl
    · exact p_lf_3 ys xs hx
    · rcases hy with rfl | ⟨zs, rfl⟩
      · exact p_crend_3 xs hx
      · exact p_crdot_3 zs xs hx
    · exact p_crlf_3 ys xs (by (first | lia | omega))
  | 4, _, _ =>
    rcases he with rfl | rfl | rfl
    · exact p_lf_4 ys xs hx
    · rcases hy with rfl | ⟨zs, rfl⟩
      · exact p_crend_4 xs hx
      · exact p_crdot_4 zs xs hx
    · exact p_crlf_4 ys xs (by (first | lia | omega))
theorem ends_len {e : List Nat} (he : e ∈ ends) : 1 ≤ e.length ∧ e.length ≤ 2 := by
  simp only [ends, List.mem_cons, List.not_mem_nil, or_false] at he
  rcases he with rfl | rfl | rfl <;> decide
/-- one row of the text is turned -/
theorem turn_row {xs ys e rep : List Nat} {d k : Nat} {acc : List (List Nat)} (hx : xs.length ≤ 12) (h1 : 1 ≤ d) (h2 : d ≤ 4) (he : e ∈ ends) (hy : behind ys) :
    subP code2 rep (xs ++ (List.replicate d 46 ++ (e ++ ys))) (k + 1) xs.length false acc = subP code2 rep ((xs ++ (List.replicate d 46 ++ e)) ++ ys) k (xs ++ (List.replicate d 46 ++ e)).length false (acc ++ [List.replicate d 46] ++ [rep]) := by
  rw [subP_step (find_row hx h1 h2 he hy) (by (first | lia | omega)) (ends_len he).1]
  have e1 : cutT (xs ++ (List.replicate d 46 ++ (e ++ ys))) xs.length (xs.length + d) = List.replicate d 46 := by
    have := cut_mid xs (List.replicate d 46) (e ++ ys)
    rwa [List.length_replicate] at this
  rw [e1]
  have e2 : xs ++ (List.replicate d 46 ++ (e ++ ys)) = (xs ++ (List.replicate d 46 ++ e)) ++ ys := by simp [List.append_assoc]
  have e3 : xs.length + d + e.length = (xs ++ (List.replicate d 46 ++ e)).length := by simp; (first | lia | omega)
  rw [e2, e3]
end Mine
/-! part 43 -/
namespace Mine
open PySem PySem.Calls PyProof.Rows
theorem find_crlf {xs ys : List Nat} {d : Nat} (hx : xs.length ≤ 16) (h1 : 1 ≤ d) (h2 : d ≤ 6) : findP code2 (xs ++ (List.replicate d 46 ++ ([13, 10] ++ ys))) xs.length false = some (some (xs.length + d, xs.length + d + 2)) := by
  match d, h1, h2 with
  | 1, _, _ => exact p_crlf_1 ys xs hx
  | 2, _, _ => exact p_crlf_2 ys xs hx
  | 3, _, _ => exact p_crlf_3 ys xs hx
  | 4, _, _ => exact p_crlf_4 ys xs hx
  | 5, _, _ => exact p_crlf_5 ys xs hx
  | 6, _, _ => exact p_crlf_6 ys xs hx
theorem turn_crlf {xs ys rep : List Nat} {d k : Nat} {acc : List (List Nat)} (hx : xs.length ≤ 16) (h1 : 1 ≤ d) (h2 : d ≤ 6) :
    subP code2 rep (xs ++ (List.replicate d 46 ++ ([13, 10] ++ ys))) (k + 1) xs.length false acc = subP code2 rep ((xs ++ (List.replicate d 46 ++ [13, 10])) ++ ys) k (xs ++ (List.replicate d 46 ++ [13, 10])).length false (acc ++ [List.replicate d 46] ++ [rep]) := by
  rw [subP_step (o := 2) (find_crlf hx h1 h2) (by (first | lia | omega)) (by (first | lia | omega))]
  have e1 : cutT (xs ++ (List.replicate d 46 ++ ([13, 10] ++ ys))) xs.length (xs.length + d) = List.replicate d 46 := by
    have := cut_mid xs (List.replicate d 46) ([13, 10] ++ ys)
    rwa [List.length_replicate] at this
  rw [e1]
  have e2 : xs ++ (List.replicate d 46 ++ ([13, 10] ++ ys)) = (xs ++ (List.replicate d 46 ++ [13, 10])) ++ ys := by simp [List.append_assoc]
  have e3 : xs.length + d + 2 = (xs ++ (List.replicate d 46 ++ [13, 10])).length := by simp; (first | lia | omega)
  rw [e2, e3]
noncomputable def mailT (a b c : Nat) (e f g : List Nat) : List Nat := row a e ++ (row b f ++ row c g)
noncomputable def rowsT (a b c : Nat) : List Nat := mailT a b c [13, 10] [13, 10] [13, 10]
theorem behind_row {n : Nat} {e ys : List Nat} (h : 1 ≤ n) : behind (row n e ++ ys) := by
  obtain ⟨m, rfl⟩ : ∃ m, n = m + 1 := ⟨n - 1, by (first | lia | omega)⟩
  exact .inr ⟨List.replicate m 46 ++ e ++ ys, by simp [row, List.replicate_succ]⟩
/-- a mail with its ends made even -/
theorem sub_mail {a b c : Nat} {e f g : List Nat} (ha : 1 ≤ a ∧ a ≤ 4) (hb : 1 ≤ b ∧ b ≤ 4) (hc : 1 ≤ c ∧ c ≤ 4) (he : e ∈ ends) (hf : f ∈ ends) (hg : g ∈ ends) : subP code2 [13, 10] (mailT a b c e f g) 40 0 false [] = some [List.replicate a 46, [13, 10], List.replicate b 46, [13, 10], List.replicate c 46, [13, 10]] := by
  have l1 := ends_len he
  have l2 := ends_len hf
  have l3 := ends_len hg
  have t1 := turn_row (xs := []) (ys := row b f ++ (row c g ++ [])) (rep := [13, 10]) (k := 39) (acc := []) (by simp) ha.1 ha.2 he (behind_row hb.1)
  have t2 := turn_row (xs := row a e) (ys := row c g ++ []) (rep := [13, 10]) (k := 38) (acc := [List.replicate a 46, [13, 10]]) (by simp [row]; (first | lia | omega)) hb.1 hb.2 hf (behind_row hc.1)
  have t3 := turn_row (xs := row a e ++ row b f) (ys := []) (rep := [13, 10]) (k := 37) (acc := [List.replicate a 46, [13, 10], List.replicate b 46, [13, 10]]) (by simp [row]; (first | lia | omega)) hc.1 hc.2 hg (.inl rfl)
  have hl : (row a e ++ row b f ++ row c g).length ≤ 24 := by simp [row]; (first | lia | omega)
  have t4 := subP_end (code := code2) (rep := [13, 10]) (k := 36) (acc := [List.replicate a 46, [13, 10], List.replicate b 46, [13, 10], List.replicate c 46, [13, 10]]) (p_end (row a e ++ row b f ++ row c g) hl) (Nat.le_refl _)
  have e0 : mailT a b c e f g = [] ++ (List.replicate a 46 ++ (e ++ (row b f ++ (row c g ++ [])))) := by simp [mailT, row, List.append_assoc]
  rw [e0]
  refine t1.trans ?_
  have e1 : ([] ++ (List.replicate a 46 ++ e)) ++ (row b f ++ (row c g ++ [])) = row a e ++ (List.replicate b 46 ++ (f ++ (row c g ++ []))) := by simp [row, List.append_assoc]
  rw [e1]
  refine t2.trans ?_
  have e2 : (row a e ++ (List.replicate b 46 ++ f)) ++ (row c g ++ []) = (row a e ++ row b f) ++ (List.replicate c 46 ++ (g ++ [])) := by simp [row, List.append_assoc]
  rw [e2]
  have e3 : (row a e ++ (List.replicate b 46 ++ f)) = row a e ++ row b f := rfl
  rw [e3]
  refine t3.trans ?_
  have e4 : (row a e ++ row b f ++ (List.replicate c 46 ++ g)) ++ [] = row a e ++ row b f ++ row c g := by simp [row]
  rw [e4]
  exact t4
theorem sub_rows {a b c : Nat} (ha : 1 ≤ a ∧ a ≤ 6) (hb : 1 ≤ b ∧ b ≤ 6) (hc : 1 ≤ c ∧ c ≤ 6) : subP code2 [13, 10] (rowsT a b c) 40 0 false [] = some [List.replicate a 46, [13, 10], List.replicate b 46, [13, 10], List.replicate c 46, [13, 10]] := by
  have t1 := turn_crlf (xs := []) (ys := row b [13, 10] ++ (row c [13, 10] ++ [])) (rep := [13, 10]) (k := 39) (acc := []) (by simp) ha.1 ha.2
  have t2 := turn_crlf (xs := row a [13, 10]) (ys := row c [13, 10] ++ []) (rep := [13, 10]) (k := 38) (acc := [List.replicate a 46, [13, 10]]) (by simp [row]; (first | lia | omega)) hb.1 hb.2
  have t3 := turn_crlf (xs := row a [13, 10] ++ row b [13, 10]) (ys := []) (rep := [13, 10]) (k := 37) (acc := [List.replicate a 46, [13, 10], List.replicate b 46, [13, 10]]) (by simp [row]; (first | lia | omega)) hc.1 hc.2
  have hl : (row a [13, 10] ++ row b [13, 10] ++ row c [13, 10]).length ≤ 24 := by simp [row]; (first | lia | omega)
  have t4 := subP_end (code := code2) (rep := [13, 10]) (k := 36) (acc := [List.replicate a 46, [13, 10], List.replicate b 46, [13, 10], List.replicate c 46, [13, 10]]) (p_end (row a [13, 10] ++ row b [13, 10] ++ row c [13, 10]) hl) (Nat.le_refl _)
  have e0 : rowsT a b c = [] ++ (List.replicate a 46 ++ ([13, 10] ++ (row b [13, 10] ++ (row c [13, 10] ++ [])))) := by simp [rowsT, mailT, row, List.append_assoc]
  rw [e0]
  refine t1.trans ?_
  have e1 : ([] ++ (List.replicate a 46 ++ [13, 10])) ++ (row b [13, 10] ++ (row c [13, 10] ++ [])) = row a [13, 10] ++ (List.replicate b 46 ++ ([13, 10] ++ (row c [13, 10] ++ []))) := by simp [row, List.append_assoc]
  rw [e1]
  refine t2.trans ?_
  have e2 : (row a [13, 10] ++ (List.replicate b 46 ++ [13, 10])) ++ (row c [13, 10] ++ []) = (row a [13, 10] ++ row b [13, 10]) ++ (List.replicate c 46 ++ ([13, 10] ++ [])) := by simp [row, List.append_assoc]
  rw [e2]
  have e3 : (row a [13, 10] ++ (List.replicate b 46 ++ [13, 10])) = row a [13, 10] ++ row b [13, 10] := rfl
  rw [e3]
  refine t3.trans ?_
  have e4 : (row a [13, 10] ++ row b [13, 10] ++ (List.replicate c 46 ++ [13, 10])) ++ [] = row a [13, 10] ++ row b [13, 10] ++ row c [13, 10] := by simp [row]
  rw [e4]
  exact t4
end Mine
/-! part 44 -/
namespace Mine
open PySem PySem.Calls PyProof.Rows
theorem q_first (ys : List Nat) : findP code1 (46 :: ys) 0 false = some (some (0, 1)) := by kernel_rfl
theorem q_next_0 (ys : List Nat) : ∀ xs : List Nat, xs.length ≤ 16 → findP code1 (xs ++ (46 :: (13 :: 10 :: 46 :: ys))) (xs.length + 1) false = some (some (xs.length + 1 + 2, xs.length + 1 + 2 + 1))
  | [], _ => (by kernel_rfl : findP code1 ([] ++ (46 :: (13 :: 10 :: 46 :: ys))) 1 false = some (some (3, 4)))
  | [x0], _ => (by kernel_rfl : findP code1 ([x0] ++ (46 :: (13 :: 10 :: 46 :: ys))) 2 false = some (some (4, 5)))
  | [x0, x1], _ => (by kernel_rfl : findP code1 ([x0, x1] ++ (46 :: (13 :: 10 :: 46 :: ys))) 3 false = some (some (5, 6)))
  | [x0, x1, x2], _ => (by kernel_rfl : findP code1 ([x0, x1, x2] ++ (46 :: (13 :: 10 :: 46 :: ys))) 4 false = some (some (6, 7)))
  | [x0, x1, x2, x3], _ => (by kernel_rfl : findP code1 ([x0, x1, x2, x3] ++ (46 :: (13 :: 10 :: 46 :: ys))) 5 false = some (some (7, 8)))
  | [x0, x1, x2, x3, x4], _ => (by kernel_rfl : findP code1 ([x0, x1, x2, x3, x4] ++ (46 :: (13 :: 10 :: 46 :: ys))) 6 false = some (some (8, 9)))
  | [x0, x1, x2, x3, x4, x5], _ => (by kernel_rfl : findP code1 ([x0, x1, x2, x3, x4, x5] ++ (46 :: (13 :: 10 :: 46 :: ys))) 7 false = some (some (9, 10)))
  | [x0, x1, x2, x3, x4, x5, x6], _ => (by kernel_rfl : findP code1 ([x0, x1, x2, x3, x4, x5, x6] ++ (46 :: (13 :: 10 :: 46 :: ys))) 8 false = some (some (10, 11)))
  | [x0, x1, x2, x3, x4, x5, x6, x7], _ => (by kernel_rfl : findP code1 ([x0, x1, x2, x3, x4, x5, x6, x7] ++ (46 :: (13 :: 10 :: 46 :: ys))) 9 false = some (some (11, 12)))
  | [x0, x1, x2, x3, x4, x5, x6, x7, x8], _ => (by kernel_rfl : findP code1 ([x0, x1, x2, x3, x4, x5, x6, x7, x8] ++ (46 :: (13 :: 10 :: 46 :: ys))) 10 false = some (some (12, 13)))
  | [x0, x1, x2, x3, x4, x5, x6, x7, x8, x9], _ => (by kernel_rfl : findP code1 ([x0, x1, x2, x3, x4, x5, x6, x7, x8, x9] ++ (46 :: (13 :: 10 :: 46 :: ys))) 11 false = some (some (13, 14)))
  | [x0, x1, x2, x3, x4, x5, x6, x7, x8, x9, x10], _ => (by kernel_rfl : findP code1 ([x0, x1, x2, x3, x4, x5, x6, x7, x8, x9, x10] ++ (46 :: (13 :: 10 :: 46 :: ys))) 12 false = some (some (14, 15)))
  | [x0, x1, x2, x3, x4, x5, x6, x7, x8, x9, x10, x11], _ => (by kernel_rfl : findP code1 ([x0, x1, x2, x3, x4, x5, x6, x7, x8, x9, x10, x11] ++ (46 :: (13 :: 10 :: 46 :: ys))) 13 false = some (some (15, 16)))
  | [x0, x1, x2, x3, x4, x5, x6, x7, x8, x9, x10, x11, x12], _ => (by kernel_rfl : findP code1 ([x0, x1, x2, x3, x4, x5, x6, x7, x8, x9, x10, x11, x12] ++ (46 :: (13 :: 10 :: 46 :: ys))) 14 false = some (some (16, 17)))
  | [x0, x1, x2, x3, x4, x5, x6, x7, x8, x9, x10, x11, x12, x13], _ => (by kernel_rfl : findP code1 ([x0, x1, x2, x3, x4, x5, x6, x7, x8, x9, x10, x11, x12, x13] ++ (46 :: (13 :: 10 :: 46 :: ys))) 15 false = some (some (17, 18)))
  | [x0, x1, x2, x3, x4, x5, x6, x7, x8, x9, x10, x11, x12, x13, x14], _ => (by kernel_rfl : findP code1 ([x0, x1, x2, x3, x4, x5, x6, x7, x8, x9, x10, x11, x12, x13, x14] ++ (46 :: (13 :: 10 :: 46 :: ys))) 16 false = some (some (18, 19)))
  | [x0, x1, x2, x3, x4, x5, x6, x7, x8, x9, x10, x11, x12, x13, x14, x15], _ => (by kernel_rfl : findP code1 ([x0, x1, x2, x3, x4, x5, x6, x7, x8, x9, x10, x11, x12, x13, x14, x15] ++ (46 :: (13 :: 10 :: 46 :: ys))) 17 false = some (some (19, 20)))
  | _ :: _ :: _ :: _ :: _ :: _ :: _ :: _ :: _ :: _ :: _ :: _ :: _ :: _ :: _ :: _ :: _ :: _, h => absurd h (by simp only [List.length_cons]; (first | lia | omega))
theorem q_last_0 : ∀ xs : List Nat, xs.length ≤ 16 → findP code1 (xs ++ (46 :: (13 :: 10 :: []))) (xs.length + 1) false = some none
  | [], _ => (by kernel_rfl : findP code1 ([] ++ (46 :: (13 :: 10 :: []))) 1 false = some none)
  | [x0], _ => (by kernel_rfl : findP code1 ([x0] ++ (46 :: (13 :: 10 :: []))) 2 false = some none)
  | [x0, x1], _ => (by kernel_rfl : findP code1 ([x0, x1] ++ (46 :: (13 :: 10 :: []))) 3 false = some none)
  | [x0, x1, x2], _ => (by kernel_rfl : findP code1 ([x0, x1, x2] ++ (46 :: (13 :: 10 :: []))) 4 false = some none)
  | [x0, x1, x2, x3], _ => (by kernel_rfl : findP code1 ([x0, x1, x2, x3] ++ (46 :: (13 :: 10 :: []))) 5 false = some none)
  | [x0, x1, x2, x3, x4], _ => (by kernel_rfl : findP code1 ([x0, x1, x2, x3, x4] ++ (46 :: (13 :: 10 :: []))) 6 false = some none)
  | [x0, x1, x2, x3, x4, x5], _ => (by kernel_rfl : findP code1 ([x0, x1, x2, x3, x4, x5] ++ (46 :: (13 :: 10 :: []))) 7 false = some none)
  | [x0, x1, x2, x3, x4, x5, x6], _ => (by kernel_rfl : findP code1 ([x0, x1, x2, x3, x4, x5, x6] ++ (46 :: (13 :: 10 :: []))) 8 false = some none)
  | [x0, x1, x2, x3, x4, x5, x6, x7], _ => (by kernel_rfl : findP code1 ([x0, x1, x2, x3, x4, x5, x6, x7] ++ (46 :: (13 :: 10 :: []))) 9 false = some none)
  | [x0, x1, x2, x3, x4, x5, x6, x7, x8], _ => (by kernel_rfl : findP code1 ([x0, x1, x2, x3, x4, x5, x6, x7, x8] ++ (46 :: (13 :: 10 :: []))) 10 false = some none)
  | [x0, x1, x2, x3, x4, x5, x6, x7, x8, x9], _ => (by kernel_rfl : findP code1 ([x0, x1, x2, x3, x4, x5, x6, x7, x8, x9] ++ (46 :: (13 :: 10 :: []))) 11 false = some none)
  | [x0, x1, x2, x3, x4, x5, x6, x7, x8, x9, x10], _ => (by kernel_rfl : findP code1 ([x0, x1, x2, x3, x4, x5, x6, x7, x8, x9, x10] ++ (46 :: (13 :: 10 :: []))) 12 false = some none)
  | [x0, x1, x2, x3, x4, x5, x6, x7, x8, x9, x10, x11], _ => (by kernel_rfl : findP code1 ([x0, x1, x2, x3, x4, x5, x6, x7, x8, x9, x10, x11] ++ (46 :: (13 :: 10 :: []))) 13 false = some none)
  | [x0, x1, x2, x3, x4, x5, x6, x7, x8, x9, x10, x11, x12], _ => (by kernel_rfl : findP code1 ([x0, x1, x2, x3, x4, x5, x6, x7, x8, x9, x10, x11, x12] ++ (46 :: (13 :: 10 :: []))) 14 false = some none)
  | [x0, x1, x2, x3, x4, x5, x6, x7, x8, x9, x10, x11, x12, x13], _ => (by kernel_rfl : findP code1 ([x0, x1, x2, x3, x4, x5, x6, x7, x8, x9, x10, x11, x12, x13] ++ (46 :: (13 :: 10 :: []))) 15 false = some none)
  | [x0, x1, x2, x3, x4, x5, x6, x7, x8, x9, x10, x11, x12, x13, x14], _ => (by kernel_rfl : findP code1 ([x0, x1, x2, x3, x4, x5, x6, x7, x8, x9, x10, x11, x12, x13, x14] ++ (46 :: (13 :: 10 :: []))) 16 false = some none)
  | [x0, x1, x2, x3, x4, x5, x6, x7, x8, x9, x10, x11, x12, x13, x14, x15], _ => (by kernel_rfl : findP code1 ([x0, x1, x2, x3, x4, x5, x6, x7, x8, x9, x10, x11, x12, x13, x14, x15] ++ (46 :: (13 :: 10 :: []))) 17 false = some none)
  | _ :: _ :: _ :: _ :: _ :: _ :: _ :: _ :: _ :: _ :: _ :: _ :: _ :: _ :: _ :: _ :: _ :: _, h => absurd h (by simp only [List.length_cons]; (first | lia | omega))
theorem q_next_1 (ys : List Nat) : ∀ xs : List Nat, xs.length ≤ 16 → findP code1 (xs ++ (46 :: (46 :: 13 :: 10 :: 46 :: ys))) (xs.length + 1) false = some (some (xs.length + 1 + 3, xs.length + 1 + 3 + 1))
  | [], _ => (by kernel_rfl : findP code1 ([] ++ (46 :: (46 :: 13 :: 10 :: 46 :: ys))) 1 false = some (some (4, 5)))
  | [x0], _ => (by kernel_rfl : findP code1 ([x0] ++ (46 :: (46 :: 13 :: 10 :: 46 :: ys))) 2 false = some (some (5, 6)))
  | [x0, x1], _ => (by kernel_rfl : findP code1 ([x0, x1] ++ (46 :: (46 :: 13 :: 10 :: 46 :: ys))) 3 false = some (some (6, 7)))
  | [x0, x1, x2], _ => (by kernel_rfl : findP code1 ([x0, x1, x2] ++ (46 :: (46 :: 13 :: 10 :: 46 :: ys))) 4 false = some (some (7, 8)))
  | [x0, x1, x2, x3], _ => (by kernel_rfl : findP code1 ([x0, x1, x2, x3] ++ (46 :: (46 :: 13 :: 10 :: 46 :: ys))) 5 false = some (some (8, 9)))
  | [x0, x1, x2, x3, x4], _ => (by kernel_rfl : findP code1 ([x0, x1, x2, x3, x4] ++ (46 :: (46 :: 13 :: 10 :: 46 :: ys))) 6 false = some (some (9, 10)))
  | [x0, x1, x2, x3, x4, x5], _ => (by kernel_rfl : findP code1 ([x0, x1, x2, x3, x4, x5] ++ (46 :: (46 :: 13 :: 10 :: 46 :: ys))) 7 false = some (some (10, 11)))
  | [x0, x1, x2, x3, x4, x5, x6], _ => (by kernel_rfl : findP code1 ([x0, x1, x2, x3, x4, x5, x6] ++ (46 :: (46 :: 13 :: 10 :: 46 :: ys))) 8 false = some (some (11, 12)))
  | [x0, x1, x2, x3, x4, x5, x6, x7], _ => (by kernel_rfl : findP code1 ([x0, x1, x2, x3, x4, x5, x6, x7] ++ (46 :: (46 :: 13 :: 10 :: 46 :: ys))) 9 false = some (some (12, 13)))
  | [x0, x1, x2, x3, x4, x5, x6, x7, x8], _ => (by kernel_rfl : findP code1 ([x0, x1, x2, x3, x4, x5, x6, x7, x8] ++ (46 :: (46 :: 13 :: 10 :: 46 :: ys))) 10 false = some (some (13, 14)))
  | [x0, x1, x2, x3, x4, x5, x6, x7, x8, x9], _ => (by kernel_rfl : findP code1 ([x0, x1, x2, x3, x4, x5, x6, x7, x8, x9] ++ (46 :: (46 :: 13 :: 10 :: 46 :: ys))) 11 false = some (some (14, 15)))
  | [x0, x1, x2, x3, x4, x5, x6, x7, x8, x9, x10], _ => (by kernel_rfl : findP code1 ([x0, x1, x2, x3, x4, x5, x6, x7, x8, x9, x10] ++ (46 :: (46 :: 13 :: 10 :: 46 :: ys))) 12 false = some (some (15, 16)))
  | [x0, x1, x2, x3, x4, x5, x6, x7, x8, x9, x10, x11], _ => (by kernel_rfl : findP code1 ([x0, x1, x2, x3, x4, x5, x6, x7, x8, x9, x10, x11] ++ (46 :: (46 :: 13 :: 10 :: 46 :: ys))) 13 false = some (some (16, 17)))
  | [x0, x1, x2, x3, x4, x5, x6, x7, x8, x9, x10, x11, x12], _ => (by kernel_rfl : findP code1 ([x0, x1, x2, x3, x4, x5, x6, x7, x8, x9, x10, x11, x12] ++ (46 :: (46 :: 13 :: 10 :: 46 :: ys))) 14 false = some (some (17, 18)))
  | [x0, x1, x2, x3, x4, x5, x6, x7, x8, x9, x10, x11, x12, x13], _ => (by kernel_rfl : findP code1 ([x0, x1, x2, x3, x4, x5, x6, x7, x8, x9, x10, x11, x12, x13] ++ (46 :: (46 :: 13 :: 10 :: 46 :: ys))) 15 false = some (some (18, 19)))
  | [x0, x1, x2, x3, x4, x5, x6, x7, x8, x9, x10, x11, x12, x13, x14], _ => (by kernel_rfl : findP code1 ([x0, x1, x2, x3, x4, x5, x6, x7, x8, x9, x10, x11, x12, x13, x14] ++ (46 :: (46 :: 13 :: 10 :: 46 :: ys))) 16 false = some (some (19, 20)))
  | [x0, x1, x2, x3, x4, x5, x6, x7, x8, x9, x10, x11, x12, x13, x14, x15], _ => (by kernel_rfl : findP code1 ([x0, x1, x2, x3, x4, x5, x6, x7, x8, x9, x10, x11, x12, x13, x14, x15] ++ (46 :: (46 :: 13 :: 10 :: 46 :: ys))) 17 false = some (some (20, 21)))
  | _ :: _ :: _ :: _ :: _ :: _ :: _ :: _ :: _ :: _ :: _ :: _ :: _ :: _ :: _ :: _ :: _ :: _, h => absurd h (by simp only [List.length_cons]; (first | lia | omega))
theorem q_last_1 : ∀ xs : List Nat, xs.length ≤ 16 → findP code1 (xs ++ (46 :: (46 :: 13 :: 10 :: []))) (xs.length + 1) false = some none
  | [], _ => (by kernel_rfl : findP code1 ([] ++ (46 :: (46 :: 13 :: 10 :: []))) 1 false = some none)
  | [x0], _ => (by kernel_rfl : findP code1 ([x0] ++ (46 :: (46 :: 13 :: 10 :: []))) 2 false = some none)
  | [x0, x1], _ => (by kernel_rfl : findP code1 ([x0, x1] ++ (46 :: (46 :: 13 :: 10 :: []))) 3 false = some none)
  | [x0, x1, x2], _ => (by kernel_rfl : findP code1 ([x0, x1, x2] ++ (46 :: (46 :: 13 :: 10 :: []))) 4 false = some none)
  | [x0, x1, x2, x3], _ => (by kernel_rfl : findP code1 ([x0, x1, x2, x3] ++ (46 :: (46 :: 13 :: 10 :: []))) 5 false = some none)
  | [x0, x1, x2, x3, x4], _ => (by kernel_rfl : findP code1 ([x0, x1, x2, x3, x4] ++ (46 :: (46 :: 13 :: 10 :: []))) 6 false = some none)
  | [x0, x1, x2, x3, x4, x5], _ => (by kernel_rfl : findP code1 ([x0, x1, x2, x3, x4, x5] ++ (46 :: (46 :: 13 :: 10 :: []))) 7 false = some none)
  | [x0, x1, x2, x3, x4, x5, x6], _ => (by kernel_rfl : findP code1 ([x0, x1, x2, x3, x4, x5, x6] ++ (46 :: (46 :: 13 :: 10 :: []))) 8 false = some none)
  | [x0, x1, x2, x3, x4, x5, x6, x7], _ => (by kernel_rfl : findP code1 ([x0, x1, x2, x3, x4, x5, x6, x7] ++ (46 :: (46 :: 13 :: 10 :: []))) 9 false = some none)
  | [x0, x1, x2, x3, x4, x5, x6, x7, x8], _ => (by kernel_rfl : findP code1 ([x0, x1, x2, x3, x4, x5, x6, x7, x8] ++ (46 :: (46 :: 13 :: 10 :: []))) 10 false = some none)
  | [x0, x1, x2, x3, x4, x5, x6, x7, x8, x9], _ => (by kernel_rfl : findP code1 ([x0, x1, x2, x3, x4, x5, x6, x7, x8, x9] ++ (46 :: (46 :: 13 :: 10 :: []))) 11 false = some none)
  | [x0, x1, x2, x3, x4, x5, x6, x7, x8, x9, x10], _ => (by kernel_rfl : findP code1 ([x0, x1, x2, x3, x4, x5, x6, x7, x8, x9, x10] ++ (46 :: (46 :: 13 :: 10 :: []))) 12 false = some none)
  | [x0, x1, x2, x3, x4, x5, x6, x7, x8, x9, x10, x11], _ => (by kernel_rfl : findP code1 ([x0, x1, x2, x3, x4, x5, x6, x7, x8, x9, x10, x11] ++ (46 :: (46 :: 13 :: 10 :: []))) 13 false = some none)
  | [x0, x1, x2, x3, x4, x5, x6, x7, x8, x9, x10, x11, x12], _ => (by kernel_rfl : findP code1 ([x0, x1, x2, x3, x4, x5, x6, x7, x8, x9, x10, x11, x12] ++ (46 :: (46 :: 13 :: 10 :: []))) 14 false = some none)
  | [x0, x1, x2, x3, x4, x5, x6, x7, x8, x9, x10, x11, x12, x13], _ => (by kernel_rfl : findP code1 ([x0, x1, x2, x3, x4, x5, x6, x7, x8, x9, x10, x11, x12, x13] ++ (46 :: (46 :: 13 :: 10 :: []))) 15 false = some none)
  | [x0, x1, x2, x3, x4, x5, x6, x7, x8, x9, x10, x11, x12, x13, x14], _ => (by kernel_rfl : findP code1 ([x0, x1, x2, x3, x4, x5, x6, x7, x8, x9, x10, x11, x12, x13, x14] ++ (46 :: (46 :: 13 :: 10 :: []))) 16 false = some none)
  | [x0, x1, x2, x3, x4, x5, x6, x7, x8, x9, x10, x11, x12, x13, x14, x15], _ => (by kernel_rfl : findP code1 ([x0, x1, x2, x3, x4, x5, x6, x7, x8, x9, x10, x11, x12, x13, x14, x15] ++ (46 :: (46 :: 13 :: 10 :: []))) 17 false = some none)
  | _ :: _ :: _ :: _ :: _ :: _ :: _ :: _ :: _ :: _ :: _ :: _ :: _ :: _ :: _ :: _ :: _ :: _, h => absurd h (by simp only [List.length_cons]; (first | lia | omega))
theorem q_next_2 (ys : List Nat) : ∀ xs : List Nat, xs.length ≤ 16 → findP code1 (xs ++ (46 :: (46 :: 46 :: 13 :: 10 :: 46 :: ys))) (xs.length + 1) false = some (some (xs.length + 1 + 4, xs.length + 1 + 4 + 1))
  | [], _ => (by kernel_rfl : findP code1 ([] ++ (46 :: (46 :: 46 :: 13 :: 10 :: 46 :: ys))) 1 false = some (some (5, 6)))
  | [x0], _ => (by kernel_rfl : findP code1 ([x0] ++ (46 :: (46 :: 46 :: 13 :: 10 :: 46 :: ys))) 2 false = some (some (6, 7)))
  | [x0, x1], _ => (by kernel_rfl : findP code1 ([x0, x1] ++ (46 :: (46 :: 46 :: 13 :: 10 :: 46 :: ys))) 3 false = some (some (7, 8)))
  | [x0, x1, x2], _ => (by kernel_rfl : findP code1 ([x0, x1, x2] ++ (46 :: (46 :: 46 :: 13 :: 10 :: 46 :: ys))) 4 false = some (some (8, 9)))
  | [x0, x1, x2, x3], _ => (by kernel_rfl : findP code1 ([x0, x1, x2, x3] ++ (46 :: (46 :: 46 :: 13 :: 10 :: 46 :: ys))) 5 false = some (some (9, 10)))
  | [x0, x1, x2, x3, x4], _ => (by kernel_rfl : findP code1 ([x0, x1, x2, x3, x4] ++ (46 :: (46 :: 46 :: 13 :: 10 :: 46 :: ys))) 6 false = some (some (10, 11)))
  | [x0, x1, x2, x3, x4, x5], _ => (by kernel_rfl : findP code1 ([x0, x1, x2, x3, x4, x5] ++ (46 :: (46 :: 46 :: 13 :: 10 :: 46 :: ys))) 7 false = some (some (11, 12)))
  | [x0, x1, x2, x3, x4, x5, x6], _ => (by kernel_rfl : findP code1 ([x0, x1, x2, x3, x4, x5, x6] ++ (46 :: (46 :: 46 :: 13 :: 10 :: 46 :: ys))) 8 false = some (some (12, 13)))
  | [x0, x1, x2, x3, x4, x5, x6, x7], _ => (by kernel_rfl : findP code1 ([x0, x1, x2, x3, x4, x5, x6, x7] ++ (46 :: (46 :: 46 :: 13 :: 10 :: 46 :: ys))) 9 false = some (some (13, 14)))
  | [x0, x1, x2, x3, x4, x5, x6, x7, x8], _ => (by kernel_rfl : findP code1 ([x0, x1, x2, x3, x4, x5, x6, x7, x8] ++ (46 :: (46 :: 46 :: 13 :: 10 :: 46 :: ys))) 10 false = some (some (14, 15)))
  | [x0, x1, x2, x3, x4, x5, x6, x7, x8, x9], _ => (by kernel_rfl : findP code1 ([x0, x1, x2, x3, x4, x5, x6, x7, x8, x9] ++ (46 :: (46 :: 46 :: 13 :: 10 :: 46 :: ys))) 11 false = some (some (15, 16)))
  | [x0, x1, x2, x3, x4, x5, x6, x7, x8, x9, x10], _ => (by kernel_rfl : findP code1 ([x0, x1, x2, x3, x4, x5, x6, x7, x8, x9, x10] ++ (46 :: (46 :: 46 :: 13 :: 10 :: 46 :: ys))) 12 false = some (some (16, 17)))
  | [x0, x1, x2, x3, x4, x5, x6, x7, x8, x9, x10, x11], _ => (by kernel_rfl : findP code1 ([x0, x1, x2, x3, x4, x5, x6, x7, x8, x9, x10, x11] ++ (46 :: (46 :: 46 :: 13 :: 10 :: 46 :: ys))) 13 false = some (some (17, 18)))
  | [x0, x1, x2, x3, x4, x5, x6, x7, x8, x9, x10, x11, x12], _ => (by kernel_rfl : findP code1 ([x0, x1, x2, x3, x4, x5, x6, x7, x8, x9, x10, x11, x12] ++ (46 :: (46 :: 46 :: 13 :: 10 :: 46 :: ys))) 14 false = some (some (18, 19)))
  | [x0, x1, x2, x3, x4, x5, x6, x7, x8, x9, x10, x11, x12, x13], _ => (by kernel_rfl : findP code1 ([x0, x1, x2, x3, x4, x5, x6, x7, x8, x9, x10, x11, x12, x13] ++ (46 :: (46 :: 46 :: 13 :: 10 :: 46 :: ys))) 15 false = some (some (19, 20)))
  | [x0, x1, x2, x3, x4, x5, x6, x7, x8, x9, x10, x11, x12, x13, x14], _ => (by kernel_rfl : findP code1 ([x0, x1, x2, x3, x4, x5, x6, x7, x8, x9, x10, x11, x12, x13, x14] ++ (46 :: (46 :: 46 :: 13 :: 10 :: 46 :: ys))) 16 false = some (some (20, 21)))
  | [x0, x1, x2, x3, x4, x5, x6, x7, x8, x9, x10, x11, x12, x13, x14, x15], _ => (by kernel_rfl : findP code1 ([x0, x1, x2, x3, x4, x5, x6, x7, x8, x9, x10, x11, x12, x13, x14, x15] ++ (46 :: (46 :: 46 :: 13 :: 10 :: 46 :: ys))) 17 false = some (some (21, 22)))
  | _ :: _ :: _ :: _ :: _ :: _ :: _ :: _ :: _ :: _ :: _ :: _ :: _ :: _ :: _ :: _ :: _ :: _, h => absurd h (by simp only [List.length_cons]; (first | lia | omega))
theorem q_last_2 : ∀ xs : List Nat, xs.length ≤ 16 → findP code1 (xs ++ (46 :: (46 :: 46 :: 13 :: 10 :: []))) (xs.length + 1) false = some none
  | [], _ => (by kernel_rfl : findP code1 ([] ++ (46 :: (46 :: 46 :: 13 :: 10 :: []))) 1 false = some none)
  | [x0], _ => (by kernel_rfl : findP code1 ([x0] ++ (46 :: (46 :: 46 :: 13 :: 10 :: []))) 2 false = some none)
  | [x0, x1], _ => (by kernel_rfl : findP code1 ([x0, x1] ++ (46 :: (46 :: 46 :: 13 :: 10 :: []))) 3 false = some none)
  | [x0, x1, x2], _ => (by kernel_rfl : findP code1 ([x0, x1, x2] ++ (46 :: (46 :: 46 :: 13 :: 10 :: []))) 4 false = some none)
  | [x0, x1, x2, x3], _ => (by kernel_rfl : findP code1 ([x0, x1, x2, x3] ++ (46 :: (46 :: 46 :: 13 :: 10 :: []))) 5 false = some none)
  | [x0, x1, x2, x3, x4], _ => (by kernel_rfl : findP code1 ([x0, x1, x2, x3, x4] ++ (46 :: (46 :: 46 :: 13 :: 10 :: []))) 6 false = some none)
  | [x0, x1, x2, x3, x4, x5], _ => (by kernel_rfl : findP code1 ([x0, x1, x2, x3, x4, x5] ++ (46 :: (46 :: 46 :: 13 :: 10 :: []))) 7 false = some none)
  | [x0, x1, x2, x3, x4, x5, x6], _ => (by kernel_rfl : findP code1 ([x0, x1, x2, x3, x4, x5, x6] ++ (46 :: (46 :: 46 :: 13 :: 10 :: []))) 8 false = some none)
  | [x0, x1, x2, x3, x4, x5, x6, x7], _ => (by kernel_rfl : findP code1 ([x0, x1, x2, x3, x4, x5, x6, x7] ++ (46 :: (46 :: 46 :: 13 :: 10 :: []))) 9 false = some none)
  | [x0, x1, x2, x3, x4, x5, x6, x7, x8], _ => (by kernel_rfl : findP code1 ([x0, x1, x2, x3, x4, x5, x6, x7, x8] ++ (46 :: (46 :: 46 :: 13 :: 10 :: []))) 10 false = some none)
  | [x0, x1, x2, x3, x4, x5, x6, x7, x8, x9], _ => (by kernel_rfl : findP code1 ([x0, x1, x2, x3, x4, x5, x6, x7, x8, x9] ++ (46 :: (46 :: 46 :: 13 :: 10 :: []))) 11 false = some none)
  | [x0, x1, x2, x3, x4, x5, x6, x7, x8, x9, x10], _ => (by kernel_rfl : findP code1 ([x0, x1, x2, x3, x4, x5, x6, x7, x8, x9, x10] ++ (46 :: (46 :: 46 :: 13 :: 10 :: []))) 12 false = some none)
  | [x0, x1, x2, x3, x4, x5, x6, x7, x8, x9, x10, x11], _ => (by kernel_rfl : findP code1 ([x0, x1, x2, x3, x4, x5, x6, x7, x8, x9, x10, x11] ++ (46 :: (46 :: 46 :: 13 :: 10 :: []))) 13 false = some none)
  | [x0, x1, x2, x3, x4, x5, x6, x7, x8, x9, x10, x11, x12], _ => (by kernel_rfl : findP code1 ([x0, x1, x2, x3, x4, x5, x6, x7, x8, x9, x10, x11, x12] ++ (46 :: (46 :: 46 :: 13 :: 10 :: []))) 14 false = some none)
  | [x0, x1, x2, x3, x4, x5, x6, x7, x8, x9, x10, x11, x12, x13], _ => (by kernel_rfl : findP code1 ([x0, x1, x2, x3, x4, x5, x6, x7, x8, x9, x10, x11, x12, x13] ++ (46 :: (46 :: 46 :: 13 :: 10 :: []))) 15 false = some none)
  | [x0, x1, x2, x3, x4, x5, x6, x7, x8, x9, x10, x11, x12, x13, x14], _ => (by kernel_rfl : findP code1 ([x0, x1, x2, x3, x4, x5, x6, x7, x8, x9, x10, x11, x12, x13, x14] ++ (46 :: (46 :: 46 :: 13 :: 10 :: []))) 16 false = some none)
  | [x0, x1, x2, x3, x4, x5, x6, x7, x8, x9, x10, x11, x12, x13, x14, x15], _ => (by kernel_rfl : findP code1 ([x0, x1, x2, x3, x4, x5, x6, x7, x8, x9, x10, x11, x12, x13, x14, x15] ++ (46 :: (46 :: 46 :: 13 :: 10 :: []))) 17 false = some none)
  | _ :: _ :: _ :: _ :: _ :: _ :: _ :: _ :: _ :: _ :: _ :: _ :: _ :: _ :: _ :: _ :: _ :: _, h => absurd h (by simp only [List.length_cons]; (first | lia | omega))
theorem q_next_3 (ys : List Nat) : ∀ xs : List Nat, xs.length ≤ 16 → findP code1 (xs ++ (46 :: (46 :: 46 :: 46 :: 13 :: 10 :: 46 :: ys))) (xs.length + 1) false = some (some (xs.length + 1 + 5, xs.length + 1 + 5 + 1))
  | [], _ => (by kernel_rfl : findP code1 ([] ++ (46 :: (46 :: 46 :: 46 :: 13 :: 10 :: 46 :: ys))) 1 false = some (some (6, 7)))
  | [x0], _ => (by kernel_rfl : findP code1 ([x0] ++ (46 :: (46 :: 46 :: 46 :: 13 :: 10 :: 46 :: ys))) 2 false = some (some (7, 8)))
  | [x0, x1], _ => (by kernel_rfl : findP code1 ([x0, x1] ++ (46 :: (46 :: 46 :: 46 :: 13 :: 10 :: 46 :: ys))) 3 false = some (some (8, 9)))
  | [x0, x1, x2], _ => (by kernel_rfl : findP code1 ([x0, x1, x2] ++ (46 :: (46 :: 46 :: 46 :: 13 :: 10 :: 46 :: ys))) 4 false = some (some (9, 10)))
  | [x0, x1, x2, x3], _ => (by kernel_rfl : findP code1 ([x0, x1, x2, x3] ++ (46 :: (46 :: 46 :: 46 :: 13 :: 10 :: 46 :: ys))) 5 false = some (some (10, 11)))
  | [x0, x1, x2, x3, x4], _ => (by kernel_rfl : findP code1 ([x0, x1, x2, x3, x4] ++ (46 :: (46 :: 46 :: 46 :: 13 :: 10 :: 46 :: ys))) 6 false = some (some (11, 12)))
  | [x0, x1, x2, x3, x4, x5], _ => (by kernel_rfl : findP code1 ([x0, x1, x2, x3, x4, x5] ++ (46 :: (46 :: 46 :: 46 :: 13 :: 10 :: 46 :: ys))) 7 false = some (some (12, 13)))
  | [x0, x1, x2, x3, x4, x5, x6], _ => (by kernel_rfl : findP code1 ([x0, x1, x2, x3, x4, x5, x6] ++ (46 :: (46 :: 46 :: 46 :: 13 :: 10 :: 46 :: ys))) 8 false = some (some (13, 14)))
  | [x0, x1, x2, x3, x4, x5, x6, x7], _ => (by kernel_rfl : findP code1 ([x0, x1, x2, x3, x4, x5, x6, x7] ++ (46 :: (46 :: 46 :: 46 :: 13 :: 10 :: 46 :: ys))) 9 false = some (some (14, 15)))
  | [x0, x1, x2, x3, x4, x5, x6, x7, x8], _ => (by kernel_rfl : findP code1 ([x0, x1, x2, x3, x4, x5, x6, x7, x8] ++ (46 :: (46 :: 46 :: 46 :: 13 :: 10 :: 46 :: ys))) 10 false = some (some (15, 16)))
  | [x0, x1, x2, x3, x4, x5, x6, x7, x8, x9], _ => (by kernel_rfl : findP code1 ([x0, x1, x2, x3, x4, x5, x6, x7, x8, x9] ++ (46 :: (46 :: 46 :: 46 :: 13 :: 10 :: 46 :: ys))) 11 false = some (some (16, 17)))
  | [x0, x1, x2, x3, x4, x5, x6, x7, x8, x9, x10], _ => (by kernel_rfl : findP code1 ([x0, x1, x2, x3, x4, x5, x6, x7, x8, x9, x10] ++ (46 :: (46 :: 46 :: 46 :: 13 :: 10 :: 46 :: ys))) 12 false = some (some (17, 18)))
  | [x0, x1, x2, x3, x4, x5, x6, x7, x8, x9, x10, x11], _ => (by kernel_rfl : findP code1 ([x0, x1, x2, x3, x4, x5, x6, x7, x8, x9, x10, x11] ++ (46 :: (46 :: 46 :: 46 :: 13 :: 10 :: 46 :: ys))) 13 false = some (some (18, 19)))
  | [x0, x1, x2, x3, x4, x5, x6, x7, x8, x9, x10, x11, x12], _ => (by kernel_rfl : findP code1 ([x0, x1, x2, x3, x4, x5, x6, x7, x8, x9, x10, x11, x12] ++ (46 :: (46 :: 46 :: 46 :: 13 :: 10 :: 46 :: ys))) 14 false = some (some (19, 20)))
  | [x0, x1, x2, x3, x4, x5, x6, x7, x8, x9, x10, x11, x12, x13], _ => (by kernel_rfl : findP code1 ([x0, x1, x2, x3, x4, x5, x6, x7, x8, x9, x10, x11, x12, x13] ++ (46 :: (46 :: 46 :: 46 :: 13 :: 10 :: 46 :: ys))) 15 false = some (some (20, 21)))
  | [x0, x1, x2, x3, x4, x5, x6, x7, x8, x9, x10, x11, x12, x13, x14], _ => (by kernel_rfl : findP code1 ([x0, x1, x2, x3, x4, x5, x6, x7, x8, x9, x10, x11, x12, x13, x14] ++ (46 :: (46 :: 46 :: 46 :: 13 :: 10 :: 46 :: ys))) 16 false = some (some (21, 22)))
  | [x0, x1, x2, x3, x4, x5, x6, x7, x8, x9, x10, x11, x12, x13, x14, x15], _ => (by kernel_rfl : findP code1 ([x0, x1, x2, x3, x4, x5, x6, x7, x8, x9, x10, x11, x12, x13, x14, x15] ++ (46 :: (46 :: 46 :: 46 :: 13 :: 10 :: 46 :: ys))) 17 false = some (some (22, 23)))
  | _ :: _ :: _ :: _ :: _ :: _ :: _ :: _ :: _ :: _ :: _ :: _ :: _ :: _ :: _ :: _ :: _ :: _, h => absurd h (by simp only [List.length_cons]; (first | lia | omega))
theorem q_last_3 : ∀ xs : List Nat, xs.length ≤ 16 → findP code1 (xs ++ (46 :: (46 :: 46 :: 46 :: 13 :: 10 :: []))) (xs.length + 1) false = some none
  | [], _ => (by kernel_rfl : findP code1 ([] ++ (46 :: (46 :: 46 :: 46 :: 13 :: 10 :: []))) 1 false = some none)
  | [x0], _ => (by kernel_rfl : findP code1 ([x0] ++ (46 :: (46 :: 46 :: 46 :: 13 :: 10 :: []))) 2 false = some none)
  | [x0, x1], _ => (by kernel_rfl : findP code1 ([x0, x1] ++ (46 :: (46 :: 46 :: 46 :: 13 :: 10 :: []))) 3 false = some none)
  | [x0, x1, x2], _ => (by kernel_rfl : findP code1 ([x0, x1, x2] ++ (46 :: (46 :: 46 :: 46 :: 13 :: 10 :: []))) 4 false = some none)
  | [x0, x1, x2, x3], _ => (by kernel_rfl : findP code1 ([x0, x1, x2, x3] ++ (46 :: (46 :: 46 :: 46 :: 13 :: 10 :: []))) 5 false = some none)
  | [x0, x1, x2, x3, x4], _ => (by kernel_rfl : findP code1 ([x0, x1, x2, x3, x4] ++ (46 :: (46 :: 46 :: 46 :: 13 :: 10 :: []))) 6 false = some none)
  | [x0, x1, x2, x3, x4, x5], _ => (by kernel_rfl : findP code1 ([x0, x1, x2, x3, x4, x5] ++ (46 :: (46 :: 46 :: 46 :: 13 :: 10 :: []))) 7 false = some none)
  | [x0, x1, x2, x3, x4, x5, x6], _ => (by kernel_rfl : findP code1 ([x0, x1, x2, x3, x4, x5, x6] ++ (46 :: (46 :: 46 :: 46 :: 13 :: 10 :: []))) 8 false = some none)
  | [x0, x1, x2, x3, x4, x5, x6, x7], _ => (by kernel_rfl : findP code1 ([x0, x1, x2, x3, x4, x5, x6, x7] ++ (46 :: (46 :: 46 :: 46 :: 13 :: 10 :: []))) 9 false = some none)
  | [x0, x1, x2, x3, x4, x5, x6, x7, x8], _ => (by kernel_rfl : findP code1 ([x0, x1, x2, x3, x4, x5, x6, x7, x8] ++ (46 :: (46 :: 46 :: 46 :: 13 :: 10 :: []))) 10 false = some none)
  | [x0, x1, x2, x3, x4, x5, x6, x7, x8, x9], _ => (by kernel_rfl : findP code1 ([x0, x1, x2, x3, x4, x5, x6, x7, x8, x9] ++ (46 :: (46 :: 46 :: 46 :: 13 :: 10 :: []))) 11 false = some none)
  | [x0, x1, x2, x3, x4, x5, x6, x7, x8, x9, x10], _ => (by kernel_rfl : findP code1 ([x0, x1, x2, x3, x4, x5, x6, x7, x8, x9, x10] ++ (46 :: (46 :: 46 :: 46 :: 13 :: 10 :: []))) 12 false = some none)
  | [x0, x1, x2, x3, x4, x5, x6, x7, x8, x9, x10, x11], _ => (by kernel_rfl : findP code1 ([x0, x1, x2, x3, x4, x5, x6, x7, x8, x9, x10, x11] ++ (46 :: (46 :: 46 :: 46 :: 13 :: 10 :: []))) 13 false = some none)
  | [x0, x1, x2, x3, x4, x5, x6, x7, x8, x9, x10, x11, x12], _ => (by kernel_rfl : findP code1 ([x0, x1, x2, x3, x4, x5, x6, x7, x8, x9, x10, x11, x12] ++ (46 :: (46 :: 46 :: 46 :: 13 :: 10 :: []))) 14 false = some none)
  | [x0, x1, x2, x3, x4, x5, x6, x7, x8, x9, x10, x11, x12, x13], _ => (by kernel_rfl : findP code1 ([x0, x1, x2, x3, x4, x5, x6, x7, x8, x9, x10, x11, x12, x13] ++ (46 :: (46 :: 46 :: 46 :: 13 :: 10 :: []))) 15 false = some none)
  | [x0, x1, x2, x3, x4, x5, x6, x7, x8, x9, x10, x11, x12, x13, x14], _ => (by kernel_rfl : findP code1 ([x0, x1, x2, x3, x4, x5, x6, x7, x8, x9, x10, x11, x12, x13, x14] ++ (46 :: (46 :: 46 :: 46 :: 13 :: 10 :: []))) 16 false = some none)
  | [x0, x1, x2, x3, x4, x5, x6, x7, x8, x9, x10, x11, x12, x13, x14, x15], _ => (by kernel_rfl : findP code1 ([x0, x1, x2, x3, x4, x5, x6, x7, x8, x9, x10, x11, x12, x13, x14, x15] ++ (46 :: (46 :: 46 :: 46 :: 13 :: 10 :: []))) 17 false = some none)
  | _ :: _ :: _ :: _ :: _ :: _ :: _ :: _ :: _ :: _ :: _ :: _ :: _ :: _ :: _ :: _ :: _ :: _, h => absurd h (by simp only [List.length_cons]; (first | lia | omega))
theorem q_next_4 (ys : List Nat) : ∀ xs : List Nat, xs.length ≤ 16 → findP code1 (xs ++ (46 :: (46 :: 46 :: 46 :: 46 :: 13 :: 10 :: 46 :: ys))) (xs.length + 1) false = some (some (xs.length + 1 + 6, xs.length + 1 + 6 + 1))
  | [], _ => (by kernel_rfl : findP code1 ([] ++ (46 :: (46 :: 46 :: 46 :: 46 :: 13 :: 10 :: 46 :: ys))) 1 false = some (some (7, 8)))
  | [x0], _ => (by kernel_rfl : findP code1 ([x0] ++ (46 :: (46 :: 46 :: 46 :: 46 :: 13 :: 10 :: 46 :: ys))) 2 false = some (some (8, 9)))
  | [x0, x1], _ => (by kernel_rfl : findP code1 ([x0, x1] ++ (46 :: (46 :: 46 :: 46 :: 46 :: 13 :: 10 :: 46 :: ys))) 3 false = some (some (9, 10)))
  | [x0, x1, x2], _ => (by kernel_rfl : findP code1 ([x0, x1, x2] ++ (46 :: (46 :: 46 :: 46 :: 46 :: 13 :: 10 :: 46 :: ys))) 4 false = some (some (10, 11)))
  | [x0, x1, x2, x3], _ => (by kernel_rfl : findP code1 ([x0, x1, x2, x3] ++ (46 :: (46 :: 46 :: 46 :: 46 :: 13 :: 10 :: 46 :: ys))) 5 false = some (some (11, 12)))
  | [x0, x1, x2, x3, x4], _ => (by kernel_rfl : findP code1 ([x0, x1, x2, x3, x4] ++ (46 :: (46 :: 46 :: 46 :: 46 :: 13 :: 10 :: 46 :: ys))) 6 false = some (some (12, 13)))
  | [x0, x1, x2, x3, x4, x5], _ => (by kernel_rfl : findP code1 ([x0, x1, x2, x3, x4, x5] ++ (46 :: (46 :: 46 :: 46 :: 46 :: 13 :: 10 :: 46 :: ys))) 7 false = some (some (13, 14)))
  | [x0, x1, x2, x3, x4, x5, x6], _ => (by kernel_rfl : findP code1 ([x0, x1, x2, x3, x4, x5, x6] ++ (46 :: (46 :: 46 :: 46 :: 46 :: 13 :: 10 :: 46 :: ys))) 8 false = some (some (14, 15)))
  | [x0, x1, x2, x3, x4, x5, x6, x7], _ => (by kernel_rfl : findP code1 ([x0, x1, x2, x3, x4, x5, x6, x7] ++ (46 :: (46 :: 46 :: 46 :: 46 :: 13 :: 10 :: 46 :: ys))) 9 false = some (some (15, 16)))
  | [x0, x1, x2, x3, x4, x5, x6, x7, x8], _ => (by kernel_rfl : findP code1 ([x0, x1, x2, x3, x4, x5, x6, x7, x8] ++ (46 :: (46 :: 46 :: 46 :: 46 :: 13 :: 10 :: 46 :: ys))) 10 false = some (some (16, 17)))
  | [x0, x1, x2, x3, x4, x5, x6, x7, x8, x9], _ => (by kernel_rfl : findP code1 ([x0, x1, x2, x3, x4, x5, x6, x7, x8, x9] ++ (46 :: (46 :: 46 :: 46 :: 46 :: 13 :: 10 :: 46 :: ys))) 11 false = some (some (17, 18)))
  | [x0, x1, x2, x3, x4, x5, x6, x7, x8, x9, x10], _ => (by kernel_rfl : findP code1 ([x0, x1, x2, x3, x4, x5, x6, x7, x8, x9, x10] ++ (46 :: (46 :: 46 :: 46 :: 46 :: 13 :: 10 :: 46 :: ys))) 12 false = some (some (18, 19)))
  | [x0, x1, x2, x3, x4, x5, x6, x7, x8, x9, x10, x11], _ => (by kernel_rfl : findP code1 ([x0, x1, x2, x3, x4, x5, x6, x7, x8, x9, x10, x11] ++ (46 :: (46 :: 46 :: 46 :: 46 :: 13 :: 10 :: 46 :: ys))) 13 false = some (some (19, 20)))
  | [x0, x1, x2, x3, x4, x5, x6, x7, x8, x9, x10, x11, x12], _ => (by kernel_rfl : findP code1 ([x0, x1, x2, x3, x4, x5, x6, x7, x8, x9, x10, x11, x12] ++ (46 :: (46 :: 46 :: 46 :: 46 :: 13 :: 10 :: 46 :: ys))) 14 false = some (some (20, 21)))
  | [x0, x1, x2, x3, x4, x5, x6, x7, x8, x9, x10, x11, x12, x13], _ => (by kernel_rfl : findP code1 ([x0, x1, x2, x3, x4, x5, x6, x7, x8, x9, x10, x11, x12, x13] ++ (46 :: (46 :: 46 :: 46 :: 46 :: 13 :: 10 :: 46 :: ys))) 15 false = some (some (21, 22)))
  | [x0, x1, x2, x3, x4, x5, x6, x7, x8, x9, x10, x11, x12, x13, x14], _ => (by kernel_rfl : findP code1 ([x0, x1, x2, x3, x4, x5, x6, x7, x8, x9, x10, x11, x12, x13, x14] ++ (46 :: (46 :: 46 :: 46 :: 46 :: 13 :: 10 :: 46 :: ys))) 16 false = some (some (22, 23)))
  | [x0, x1, x2, x3, x4, x5, x6, x7, x8, x9, x10, x11, x12, x13, x14, x15], _ => (by kernel_rfl : findP code1 ([x0, x1, x2, x3, x4, x5, x6, x7, x8, x9, x10, x11, x12, x13, x14, x15] ++ (46 :: (46 :: 46 :: 46 :: 46 :: 13 :: 10 :: 46 :: ys))) 17 false = some (some (23, 24)))
  | _ :: _ :: _ :: _ :: _ :: _ :: _ :: _ :: _ :: _ :: _ :: _ :: _ :: _ :: _ :: _ :: _ :: _, h => absurd h (by simp only [List.length_cons]; (first | lia | omega))
theorem q_last_4 : ∀ xs : List Nat, xs.length ≤ 16 → findP code1 (xs ++ (46 :: (46 :: 46 :: 46 :: 46 :: 13 :: 10 :: []))) (xs.length + 1) false = some none
  | [], _ => (by kernel_rfl : findP code1 ([] ++ (46 :: (46 :: 46 :: 46 :: 46 :: 13 :: 10 :: []))) 1 false = some none)
  | [x0], _ => (by kernel_rfl : findP code1 ([x0] ++ (46 :: (46 :: 46 :: 46 :: 46 :: 13 :: 10 :: []))) 2 false = some none)
  | [x0, x1], _ => (by kernel_rfl : findP code1 ([x0, x1] ++ (46 :: (46 :: 46 :: 46 :: 46 :: 13 :: 10 :: []))) 3 false = some none)
  | [x0, x1, x2], _ => (by kernel_rfl : findP code1 ([x0, x1, x2] ++ (46 :: (46 :: 46 :: 46 :: 46 :: 13 :: 10 :: []))) 4 false = some none)
  | [x0, x1, x2, x3], _ => (by kernel_rfl : findP code1 ([x0, x1, x2, x3] ++ (46 :: (46 :: 46 :: 46 :: 46 :: 13 :: 10 :: []))) 5 false = some none)
  | [x0, x1, x2, x3, x4], _ => (by kernel_rfl : findP code1 ([x0, x1, x2, x3, x4] ++ (46 :: (46 :: 46 :: 46 :: 46 :: 13 :: 10 :: []))) 6 false = some none)
  | [x0, x1, x2, x3, x4, x5], _ => (by kernel_rfl : findP code1 ([x0, x1, x2, x3, x4, x5] ++ (46 :: (46 :: 46 :: 46 :: 46 :: 13 :: 10 :: []))) 7 false = some none)
  | [x0, x1, x2, x3, x4, x5, x6], _ => (by kernel_rfl : findP code1 ([x0, x1, x2, x3, x4, x5, x6] ++ (46 :: (46 :: 46 :: 46 :: 46 :: 13 :: 10 :: []))) 8 false = some none)
  | [x0, x1, x2, x3, x4, x5, x6, x7], _ => (by kernel_rfl : findP code1 ([x0, x1, x2, x3, x4, x5, x6, x7] ++ (46 :: (46 :: 46 :: 46 :: 46 :: 13 :: 10 :: []))) 9 false = some none)
  | [x0, x1, x2, x3, x4, x5, x6, x7, x8], _ => (by kernel_rfl : findP code1 ([x0, x1, x2, x3, x4, x5, x6, x7, x8] ++ (46 :: (46 :: 46 :: 46 :: 46 :: 13 :: 10 :: []))) 10 false = some none)
  | [x0, x1, x2, x3, x4, x5, x6, x7, x8, x9], _ => (by kernel_rfl : findP code1 ([x0, x1, x2, x3, x4, x5, x6, x7, x8, x9] ++ (46 :: (46 :: 46 :: 46 :: 46 :: 13 :: 10 :: []))) 11 false = some none)
  | [x0, x1, x2, x3, x4, x5, x6, x7, x8, x9, x10], _ => (by kernel_rfl : findP code1 ([x0, x1, x2, x3, x4, x5, x6, x7, x8, x9, x10] ++ (46 :: (46 :: 46 :: 46 :: 46 :: 13 :: 10 :: []))) 12 false = some none)
  | [x0, x1, x2, x3, x4, x5, x6, x7, x8, x9, x10, x11], _ => (by kernel_rfl : findP code1 ([x0, x1, x2, x3, x4, x5, x6, x7, x8, x9, x10, x11] ++ (46 :: (46 :: 46 :: 46 :: 46 :: 13 :: 10 :: []))) 13 false = some none)
  | [x0, x1, x2, x3, x4, x5, x6, x7, x8, x9, x10, x11, x12], _ => (by kernel_rfl : findP code1 ([x0, x1, x2, x3, x4, x5, x6, x7, x8, x9, x10, x11, x12] ++ (46 :: (46 :: 46 :: 46 :: 46 :: 13 :: 10 :: []))) 14 false = some none)
  | [x0, x1, x2, x3, x4, x5, x6, x7, x8, x9, x10, x11, x12, x13], _ => (by kernel_rfl : findP code1 ([x0, x1, x2, x3, x4, x5, x6, x7, x8, x9, x10, x11, x12, x13] ++ (46 :: (46 :: 46 :: 46 :: 46 :: 13 :: 10 :: []))) 15 false = some none)
  | [x0, x1, x2, x3, x4, x5, x6, x7, x8, x9, x10, x11, x12, x13, x14], _ => (by kernel_rfl : findP code1 ([x0, x1, x2, x3, x4, x5, x6, x7, x8, x9, x10, x11, x12, x13, x14] ++ (46 :: (46 :: 46 :: 46 :: 46 :: 13 :: 10 :: []))) 16 false = some none)
  | [x0, x1, x2, x3, x4, x5, x6, x7, x8, x9, x10, x11, x12, x13, x14, x15], _ => (by kernel_rfl : findP code1 ([x0, x1, x2, x3, x4, x5, x6, x7, x8, x9, x10, x11, x12, x13, x14, x15] ++ (46 :: (46 :: 46 :: 46 :: 46 :: 13 :: 10 :: []))) 17 false = some none)
  | _ :: _ :: _ :: _ :: _ :: _ :: _ :: _ :: _ :: _ :: _ :: _ :: _ :: _ :: _ :: _ :: _ :: _, h => absurd h (by simp only [List.length_cons]; (first | lia | omega))
theorem q_next_5 (ys : List Nat) : ∀ xs : List Nat, xs.length ≤ 16 → findP code1 (xs ++ (46 :: (46 :: 46 :: 46 :: 46 :: 46 :: 13 :: 10 :: 46 :: ys))) (xs.length + 1) false = some (some (xs.length + 1 + 7, xs.length + 1 + 7 + 1))
  | [], _ => (by kernel_rfl : findP code1 ([] ++ (46 :: (46 :: 46 :: 46 :: 46 :: 46 :: 13 :: 10 :: 46 :: ys))) 1 false = some (some (8, 9)))
  | [x0], _ => (by kernel_rfl : findP code1 ([x0] ++ (46 :: (46 :: 46 :: 46 :: 46 :: 46 :: 13 :: 10 :: 46 :: ys))) 2 false = some (some (9, 10)))
  | [x0, x1], _ => (by kernel_rfl : findP code1 ([x0, x1] ++ (46 :: (46 :: 46 :: 46 :: 46 :: 46 :: 13 :: 10 :: 46 :: ys))) 3 false = some (some (10, 11)))
  | [x0, x1, x2], _ => (by kernel_rfl : findP code1 ([x0, x1, x2] ++ (46 :: (46 :: 46 :: 46 :: 46 :: 46 :: 13 :: 10 :: 46 :: ys))) 4 false = some (some (11, 12)))
  | [x0, x1, x2, x3], _ => (by kernel_rfl : findP code1 ([x0, x1, x2, x3] ++ (46 :: (46 :: 46 :: 46 :: 46 :: 46 :: 13 :: 10 :: 46 :: ys))) 5 false = some (some (12, 13)))
  | [x0, x1, x2, x3, x4], _ => (by kernel_rfl : findP code1 ([x0, x1, x2, x3, x4] ++ (46 :: (46 :: 46 :: 46 :: 46 :: 46 :: 13 :: 10 :: 46 :: ys))) 6 false = some (some (13, 14)))
  | [x0, x1, x2, x3, x4, x5], _ => (by kernel_rfl : findP code1 ([x0, x1, x2, x3, x4, x5] ++ (46 :: (46 :: 46 :: 46 :: 46 :: 46 :: 13 :: 10 :: 46 :: ys))) 7 false = some (some (14, 15)))
  | [x0, x1, x2, x3, x4, x5, x6], _ => (by kernel_rfl : findP code1 ([x0, x1, x2, x3, x4, x5, x6] ++ (46 :: (46 :: 46 :: 46 :: 46 :: 46 :: 13 :: 10 :: 46 :: ys))) 8 false = some (some (15, 16)))
  | [x0, x1, x2, x3, x4, x5, x6, x7], _ => (by kernel_rfl : findP code1 ([x0, x1, x2, x3, x4, x5, x6, x7] ++ (46 :: (46 :: 46 :: 46 :: 46 :: 46 :: 13 :: 10 :: 46 :: ys))) 9 false = some (some (16, 17)))
  | [x0, x1, x2, x3, x4, x5, x6, x7, x8], _ => (by kernel_rfl : findP code1 ([x0, x1, x2, x3, x4, x5, x6, x7, x8] ++ (46 :: (46 :: 46 :: 46 :: 46 :: 46 :: 13 :: 10 :: 46 :: ys))) 10 false = some (some (17, 18)))
  | [x0, x1, x2, x3, x4, x5, x6, x7, x8, x9], _ => (by kernel_rfl : findP code1 ([x0, x1, x2, x3, x4, x5, x6, x7, x8, x9] ++ (46 :: (46 :: 46 :: 46 :: 46 :: 46 :: 13 :: 10 :: 46 :: ys))) 11 false = some (some (18, 19)))
  | [x0, x1, x2, x3, x4, x5, x6, x7, x8, x9, x10], _ => (by kernel_rfl : findP code1 ([x0, x1, x2, x3, x4, x5, x6, x7, x8, x9, x10] ++ (46 :: (46 :: 46 :: 46 :: 46 :: 46 :: 13 :: 10 :: 46 :: ys))) 12 false = some (some (19, 20)))
  | [x0, x1, x2, x3, x4, x5, x6, x7, x8, x9, x10, x11], _ => (by kernel_rfl : findP code1 ([x0, x1, x2, x3, x4, x5, x6, x7, x8, x9, x10, x11] ++ (46 :: (46 :: 46 :: 46 :: 46 :: 46 :: 13 :: 10 :: 46 :: ys))) 13 false = some (some (20, 21)))
  | [x0, x1, x2, x3, x4, x5, x6, x7, x8, x9, x10, x11, x12], _ => (by kernel_rfl : findP code1 ([x0, x1, x2, x3, x4, x5, x6, x7, x8, x9, x10, x11, x12] ++ (46 :: (46 :: 46 :: 46 :: 46 :: 46 :: 13 :: 10 :: 46 :: ys))) 14 false = some (some (21, 22)))
  | [x0, x1, x2, x3, x4, x5, x6, x7, x8, x9, x10, x11, x12, x13], _ => (by kernel_rfl : findP code1 ([x0, x1, x2, x3, x4, x5, x6, x7, x8, x9, x10, x11, x12, x13] ++ (46 :: (46 :: 46 :: 46 :: 46 :: 46 :: 13 :: 10 :: 46 :: ys))) 15 false = some (some (22, 23)))
  | [x0, x1, x2, x3, x4, x5, x6, x7, x8, x9, x10, x11, x12, x13, x14], _ => (by kernel_rfl : findP code1 ([x0, x1, x2, x3, x4, x5, x6, x7, x8, x9, x10, x11, x12, x13, x14] ++ (46 :: (46 :: 46 :: 46 :: 46 :: 46 :: 13 :: 10 :: 46 :: ys))) 16 false = some (some (23, 24)))
  | [x0, x1, x2, x3, x4, x5, x6, x7, x8, x9, x10, x11, x12, x13, x14, x15], _ => (by kernel_rfl : findP code1 ([x0, x1, x2, x3, x4, x5, x6, x7, x8, x9, x10, x11, x12, x13, x14, x15] ++ (46 :: (46 :: 46 :: 46 :: 46 :: 46 :: 13 :: 10 :: 46 :: ys))) 17 false = some (some (24, 25)))
  | _ :: _ :: _ :: _ :: _ :: _ :: _ :: _ :: _ :: _ :: _ :: _ :: _ :: _ :: _ :: _ :: _ :: _, h => absurd h (by simp only [List.length_cons]; (first | lia | omega))
theorem q_last_5 : ∀ xs : List Nat, xs.length ≤ 16 → findP code1 (xs ++ (46 :: (46 :: 46 :: 46 :: 46 :: 46 :: 13 :: 10 :: []))) (xs.length + 1) false = some none
  | [], _ => (by kernel_rfl : findP code1 ([] ++ (46 :: (46 :: 46 :: 46 :: 46 :: 46 :: 13 :: 10 :: []))) 1 false = some none)
  | [x0], _ => (by kernel_rfl : findP code1 ([x0] ++ (46 :: (46 :: 46 :: 46 :: 46 :: 46 :: 13 :: 10 :: []))) 2 false = some none)
  | [x0, x1], _ => (by kernel_rfl : findP code1 ([x0, x1] ++ (46 :: (46 :: 46 :: 46 :: 46 :: 46 :: 13 :: 10 :: []))) 3 false = some none)
  | [x0, x1, x2], _ => (by kernel_rfl : findP code1 ([x0, x1, x2] ++ (46 :: (46 :: 46 :: 46 :: 46 :: 46 :: 13 :: 10 :: []))) 4 false = some none)
  | [x0, x1, x2, x3], _ => (by kernel_rfl : findP code1 ([x0, x1, x2, x3] ++ (46 :: (46 :: 46 :: 46 :: 46 :: 46 :: 13 :: 10 :: []))) 5 false = some none)
  | [x0, x1, x2, x3, x4], _ => (by kernel_rfl : findP code1 ([x0, x1, x2, x3, x4] ++ (46 :: (46 :: 46 :: 46 :: 46 :: 46 :: 13 :: 10 :: []))) 6 false = some none)
  | [x0, x1, x2, x3, x4, x5], _ => (by kernel_rfl : findP code1 ([x0, x1, x2, x3, x4, x5] ++ (46 :: (46 :: 46 :: 46 :: 46 :: 46 :: 13 :: 10 :: []))) 7 false = some none)
  | [x0, x1, x2, x3, x4, x5, x6], _ => (by kernel_rfl : findP code1 ([x0, x1, x2, x3, x4, x5, x6] ++ (46 :: (46 :: 46 :: 46 :: 46 :: 46 :: 13 :: 10 :: []))) 8 false = some none)
  | [x0, x1, x2, x3, x4, x5, x6, x7], _ => (by kernel_rfl : findP code1 ([x0, x1, x2, x3, x4, x5, x6, x7] ++ (46 :: (46 :: 46 :: 46 :: 46 :: 46 :: 13 :: 10 :: []))) 9 false = some none)
  | [x0, x1, x2, x3, x4, x5, x6, x7, x8], _ => (by kernel_rfl : findP code1 ([x0, x1, x2, x3, x4, x5, x6, x7, x8] ++ (46 :: (46 :: 46 :: 46 :: 46 :: 46 :: 13 :: 10 :: []))) 10 false = some none)
  | [x0, x1, x2, x3, x4, x5, x6, x7, x8, x9], _ => (by kernel_rfl : findP code1 ([x0, x1, x2, x3, x4, x5, x6, x7, x8, x9] ++ (46 :: (46 :: 46 :: 46 :: 46 :: 46 :: 13 :: 10 :: []))) 11 false = some none)
  | [x0, x1, x2, x3, x4, x5, x6, x7, x8, x9, x10], _ => (by kernel_rfl : findP code1 ([x0, x1, x2, x3, x4, x5, x6, x7, x8, x9, x10] ++ (46 :: (46 :: 46 :: 46 :: 46 :: 46 :: 13 :: 10 :: []))) 12 false = some none)
  | [x0, x1, x2, x3, x4, x5, x6, x7, x8, x9, x10, x11], _ => (by kernel_rfl : findP code1 ([x0, x1, x2, x3, x4, x5, x6, x7, x8, x9, x10, x11] ++ (46 :: (46 :: 46 :: 46 :: 46 :: 46 :: 13 :: 10 :: []))) 13 false = some none)
  | [x0, x1, x2, x3, x4, x5, x6, x7, x8, x9, x10, x11, x12], _ => (by kernel_rfl : findP code1 ([x0, x1, x2, x3, x4, x5, x6, x7, x8, x9, x10, x11, x12] ++ (46 :: (46 :: 46 :: 46 :: 46 :: 46 :: 13 :: 10 :: []))) 14 false = some none)
  | [x0, x1, x2, x3, x4, x5, x6, x7, x8, x9, x10, x11, x12, x13], _ => (by kernel_rfl : findP code1 ([x0, x1, x2, x3, x4, x5, x6, x7, x8, x9, x10, x11, x12, x13] ++ (46 :: (46 :: 46 :: 46 :: 46 :: 46 :: 13 :: 10 :: []))) 15 false = some none)
  | [x0, x1, x2, x3, x4, x5, x6, x7, x8, x9, x10, x11, x12, x13, x14], _ => (by kernel_rfl : findP code1 ([x0, x1, x2, x3, x4, x5, x6, x7, x8, x9, x10, x11, x12, x13, x14] ++ (46 :: (46 :: 46 :: 46 :: 46 :: 46 :: 13 :: 10 :: []))) 16 false = some none)
  | [x0, x1, x2, x3, x4, x5, x6, x7, x8, x9, x10, x11, x12, x13, x14, x15], _ => (by kernel_rfl : findP code1 ([x0, x1, x2, x3, x4, x5, x6, x7, x8, x9, x10, x11, x12, x13, x14, x15] ++ (46 :: (46 :: 46 :: 46 :: 46 :: 46 :: 13 :: 10 :: []))) 17 false = some none)
  | _ :: _ :: _ :: _ :: _ :: _ :: _ :: _ :: _ :: _ :: _ :: _ :: _ :: _ :: _ :: _ :: _ :: _, h => absurd h (by simp only [List.length_cons]; (first | lia | omega))
end Mine
/-! part 45 -/
namespace Mine
open PySem PySem.Calls PyProof.Rows
theorem subP_here {code rep text : List Nat} {k s o : Nat} {acc : List (List Nat)} (hf : findP code text s false = some (some (s, s + o))) (ho : 0 < o) :
    subP code rep text (k + 1) s false acc = subP code rep text k (s + o) false (acc ++ [rep]) := by
  have h1 : ¬ s < s := by (first | lia | omega)
  have h2 : (s + o == s) = false := by simp; (first | lia | omega)
  conv => lhs; unfold subP
  simp only [hf, Option.bind_some, if_neg h1, h2]
theorem subP_tail {code rep text : List Nat} {k s : Nat} {acc : List (List Nat)} (hf : findP code text s false = some none) (hs : s < text.length) : subP code rep text (k + 1) s false acc = some (acc ++ [cutT text s text.length]) := by
  conv => lhs; unfold subP
  simp only [hf, Option.bind_some, if_pos hs]
theorem next_dot {xs ys : List Nat} {m : Nat} (hx : xs.length ≤ 16) (h : m ≤ 5) : findP code1 (xs ++ (46 :: (List.replicate m 46 ++ 13 :: 10 :: 46 :: ys))) (xs.length + 1) false = some (some (xs.length + 1 + (m + 2), xs.length + 1 + (m + 2) + 1)) := by
  match m, h with
  | 0, _ => exact q_next_0 ys xs hx
  | 1, _ => exact q_next_1 ys xs hx
  | 2, _ => exact q_next_2 ys xs hx
  | 3, _ => exact q_next_3 ys xs hx
  | 4, _ => exact q_next_4 ys xs hx
  | 5, _ => exact q_next_5 ys xs hx
theorem last_dot {xs : List Nat} {m : Nat} (hx : xs.length ≤ 16) (h : m ≤ 5) : findP code1 (xs ++ (46 :: (List.replicate m 46 ++ 13 :: 10 :: []))) (xs.length + 1) false = some none := by
  match m, h with
  | 0, _ => exact q_last_0 xs hx
  | 1, _ => exact q_last_1 xs hx
  | 2, _ => exact q_last_2 xs hx
  | 3, _ => exact q_last_3 xs hx
  | 4, _ => exact q_last_4 xs hx
  | 5, _ => exact q_last_5 xs hx
theorem turn_dot {xs ys : List Nat} {m k : Nat} {acc : List (List Nat)} (hx : xs.length ≤ 16) (h : m ≤ 5) :
    subP code1 [46, 46] (xs ++ (46 :: (List.replicate m 46 ++ 13 :: 10 :: 46 :: ys))) (k + 1) (xs.length + 1) false acc =
      subP code1 [46, 46] ((xs ++ (46 :: (List.replicate m 46 ++ [13, 10]))) ++ 46 :: ys) k ((xs ++ (46 :: (List.replicate m 46 ++ [13, 10]))).length + 1) false (acc ++ [List.replicate m 46 ++ [13, 10]] ++ [[46, 46]]) := by
  rw [subP_step (d := m + 2) (o := 1) (next_dot hx h) (by (first | lia | omega)) (by (first | lia | omega))]
  have e1 : cutT (xs ++ (46 :: (List.replicate m 46 ++ 13 :: 10 :: 46 :: ys))) (xs.length + 1) (xs.length + 1 + (m + 2)) = List.replicate m 46 ++ [13, 10] := by
    have := cut_mid (xs ++ [46]) (List.replicate m 46 ++ [13, 10]) (46 :: ys)
    have l1 : (xs ++ [46]).length = xs.length + 1 := by simp
    have l2 : (List.replicate m 46 ++ [13, 10]).length = m + 2 := by simp
    rw [l1, l2] at this
    rw [← this]
    congr 1
    simp [List.append_assoc]
  rw [e1]
  have e2 : xs ++ (46 :: (List.replicate m 46 ++ 13 :: 10 :: 46 :: ys)) = (xs ++ (46 :: (List.replicate m 46 ++ [13, 10]))) ++ 46 :: ys := by simp [List.append_assoc]
  have e3 : xs.length + 1 + (m + 2) + 1 = (xs ++ (46 :: (List.replicate m 46 ++ [13, 10]))).length + 1 := by simp; (first | lia | omega)
  rw [e2, e3]
theorem cut_tail (xs : List Nat) (c : Nat) : cutT (xs ++ (46 :: (List.replicate c 46 ++ 13 :: 10 :: []))) (xs.length + 1) (xs ++ (46 :: (List.replicate c 46 ++ 13 :: 10 :: []))).length = List.replicate c 46 ++ [13, 10] := by
  have h := cut_mid (xs ++ [46]) (List.replicate c 46 ++ [13, 10]) []
  have l1 : (xs ++ [46]).length = xs.length + 1 := by simp
  have l2 : xs.length + 1 + (List.replicate c 46 ++ [13, 10]).length = (xs ++ (46 :: (List.replicate c 46 ++ 13 :: 10 :: []))).length := by simp; (first | lia | omega)
  have l3 : (xs ++ [46]) ++ ((List.replicate c 46 ++ [13, 10]) ++ []) = xs ++ (46 :: (List.replicate c 46 ++ 13 :: 10 :: [])) := by simp
  rw [l1, l2, l3] at h
  exact h
/-- a dot more for each row -/
theorem quote_rows {a b c : Nat} (ha : a ≤ 5) (hb : b ≤ 5) (hc : c ≤ 5) : subP code1 [46, 46] (rowsT (a + 1) (b + 1) (c + 1)) 40 0 false [] =
    some [[46, 46], List.replicate a 46 ++ [13, 10], [46, 46], List.replicate b 46 ++ [13, 10], [46, 46], List.replicate c 46 ++ [13, 10]] := by
  have e0 : rowsT (a + 1) (b + 1) (c + 1) = [] ++ (46 :: (List.replicate a 46 ++ 13 :: 10 :: 46 :: (List.replicate b 46 ++ 13 :: 10 :: 46 :: (List.replicate c 46 ++ 13 :: 10 :: [])))) := by
    simp [rowsT, mailT, row, List.replicate_succ, List.append_assoc]
  have hq : findP code1 (46 :: (List.replicate a 46 ++ 13 :: 10 :: 46 :: (List.replicate b 46 ++ 13 :: 10 :: 46 :: (List.replicate c 46 ++ 13 :: 10 :: [])))) 0 false = some (some (0, 0 + 1)) := by rw [Nat.zero_add]; exact q_first (List.replicate a 46 ++ 13 :: 10 :: 46 :: (List.replicate b 46 ++ 13 :: 10 :: 46 :: (List.replicate c 46 ++ 13 :: 10 :: [])))
  rw [e0, List.nil_append]
  have t0 := subP_here (code := code1) (rep := [46, 46]) (k := 39) (s := 0) (o := 1) (acc := []) (text := 46 :: (List.replicate a 46 ++ 13 :: 10 :: 46 :: (List.replicate b 46 ++ 13 :: 10 :: 46 :: (List.replicate c 46 ++ 13 :: 10 :: [])))) hq (by (first | lia | omega))
  refine t0.trans ?_
  refine (turn_dot (xs := []) (k := 38) (by simp) ha).trans ?_
  have e1 : ([] ++ (46 :: (List.replicate a 46 ++ [13, 10]))) ++ 46 :: (List.replicate b 46 ++ 13 :: 10 :: 46 :: (List.replicate c 46 ++ 13 :: 10 :: [])) = ([] ++ (46 :: (List.replicate a 46 ++ [13, 10]))) ++ (46 :: (List.replicate b 46 ++ 13 :: 10 :: 46 :: (List.replicate c 46 ++ 13 :: 10 :: []))) := rfl
  rw [e1]
  refine (turn_dot (k := 37) (by simp; (first | lia | omega)) hb).trans ?_
  have hx : (([] ++ (46 :: (List.replicate a 46 ++ [13, 10]))) ++ (46 :: (List.replicate b 46 ++ [13, 10]))).length ≤ 16 := by simp; (first | lia | omega)
  refine (subP_tail (k := 36) (last_dot hx hc) (by simp; (first | lia | omega))).trans ?_
  have e2 := cut_tail (([] ++ (46 :: (List.replicate a 46 ++ [13, 10]))) ++ (46 :: (List.replicate b 46 ++ [13, 10]))) c
  rw [e2]
  rfl
end Mine
/-! part 46 -/
namespace Mine
open PySem PySem.Calls PyProof.Rows
theorem ret_only {o : Option V} {Γ : Cx} {σ : AH} : ((o.map fun v => (Fl.ret v, Γ, σ)).bind fun r => match r.1 with | .next => xnext r.2.1 r.2.2 | _ => some r).bind retV = o := by
  cases o <;> rfl
theorem fix_red (x : List Nat) : w_fix_eols.1 [.str x] = subV code2 [.str [13, 10], .str x] := by
  have h : w_fix_eols.1 [.str x] = (((subV code2 [.str [13, 10], .str x]).map fun v => (Fl.ret v, ([.val (.str x)] : Cx), ([] : AH))).bind fun r => match r.1 with | .next => xnext r.2.1 r.2.2 | _ => some r).bind retV := by rfl
  rw [h, ret_only]
theorem sub_of {code rep text : List Nat} {ps : List (List Nat)} (h92 : rep.contains 92 = false) (h : subP code rep text 40 0 false [] = some ps) (hl : ps.length ≤ lim) (hok : okS ps.flatten = true) : subV code [.str rep, .str text] = some (.str ps.flatten) := by
  have e : subV code [.str rep, .str text] = if rep.contains 92 = true then none else (subP code rep text 40 0 false []).bind fun pieces => if pieces.length ≤ lim ∧ okS pieces.flatten = true then some (.str pieces.flatten) else none := by simp only [subV]
  rw [e, if_neg (by rw [h92]; decide), h, Option.bind_some, if_pos ⟨hl, hok⟩]
theorem okS_rows {a b c : Nat} (ha : a ≤ 7) (hb : b ≤ 7) (hc : c ≤ 7) : okS (rowsT a b c) = true := by
  refine okS_iff.mpr ⟨by simp [rowsT, mailT, row, lim]; (first | lia | omega), fun x hx => ?_⟩
  simp only [rowsT, mailT, row, List.mem_append, List.mem_replicate, List.mem_cons, List.not_mem_nil, or_false] at hx
  (first | lia | omega)
/-- the mail, its ends made even -/
theorem fix_mail {a b c : Nat} {e f g : List Nat} (ha : 1 ≤ a ∧ a ≤ 4) (hb : 1 ≤ b ∧ b ≤ 4) (hc : 1 ≤ c ∧ c ≤ 4) (he : e ∈ ends) (hf : f ∈ ends) (hg : g ∈ ends) : w_fix_eols.1 [.str (mailT a b c e f g)] = some (.str (rowsT a b c)) := by
  have e2 : [List.replicate a 46, [13, 10], List.replicate b 46, [13, 10], List.replicate c 46, [13, 10]].flatten = rowsT a b c := by simp [rowsT, mailT, row, List.append_assoc]
  rw [fix_red, sub_of (by decide) (sub_mail ha hb hc he hf hg) (by simp [lim]) (by rw [e2]; exact okS_rows (by (first | lia | omega)) (by (first | lia | omega)) (by (first | lia | omega))), e2]
end Mine
/-! part 47 -/
namespace Mine
open PySem PySem.Calls PyProof.Rows
theorem quote_red {x : List Nat} {y : V} (h : subV code2 [.str [13, 10], .str x] = some y) : w_quotedata.1 [.str x] = subV code1 [.str [46, 46], y] := by
  have e : w_quotedata.1 [.str x] = ((((((some (V.str [46, 46])).bind fun a => ((subV code2 [.str [13, 10], .str x]).bind fun b => (some []).map (b :: ·)).map (a :: ·)).bind (subV code1)).map fun v => (Fl.ret v, ([.val (.str x)] : Cx), ([] : AH))).bind fun r => match r.1 with | .next => xnext r.2.1 r.2.2 | _ => some r).bind retV) := by rfl
  rw [e, h]
  exact ret_only (o := subV code1 [.str [46, 46], y])
/-- rows, sent on -/
theorem quote_ok {a b c : Nat} (ha : a ≤ 5) (hb : b ≤ 5) (hc : c ≤ 5) : w_quotedata.1 [.str (rowsT (a + 1) (b + 1) (c + 1))] = some (.str (rowsT (a + 2) (b + 2) (c + 2))) := by
  have e2 : [List.replicate (a + 1) 46, [13, 10], List.replicate (b + 1) 46, [13, 10], List.replicate (c + 1) 46, [13, 10]].flatten = rowsT (a + 1) (b + 1) (c + 1) := by simp [rowsT, mailT, row, List.append_assoc]
  have e3 : [[46, 46], List.replicate a 46 ++ [13, 10], [46, 46], List.replicate b 46 ++ [13, 10], [46, 46], List.replicate c 46 ++ [13, 10]].flatten = rowsT (a + 2) (b + 2) (c + 2) := by simp [rowsT, mailT, row, List.replicate_succ, List.append_assoc]
  have h1 := sub_of (by decide) (sub_rows (a := a + 1) (b := b + 1) (c := c + 1) (by (first | lia | omega)) (by (first | lia | omega)) (by (first | lia | omega))) (by simp [lim]) (by rw [e2]; exact okS_rows (by (first | lia | omega)) (by (first | lia | omega)) (by (first | lia | omega)))
  rw [e2] at h1
  rw [quote_red h1, sub_of (by decide) (quote_rows ha hb hc) (by simp [lim]) (by rw [e3]; exact okS_rows (by (first | lia | omega)) (by (first | lia | omega)) (by (first | lia | omega))), e3]
/-- the mail itself, sent on -/
theorem quote_mail {a b c : Nat} {e f g : List Nat} (ha : 1 ≤ a ∧ a ≤ 4) (hb : 1 ≤ b ∧ b ≤ 4) (hc : 1 ≤ c ∧ c ≤ 4) (he : e ∈ ends) (hf : f ∈ ends) (hg : g ∈ ends) : w_quotedata.1 [.str (mailT a b c e f g)] = some (.str (rowsT (a + 1) (b + 1) (c + 1))) := by
  have e2 : [List.replicate a 46, [13, 10], List.replicate b 46, [13, 10], List.replicate c 46, [13, 10]].flatten = rowsT a b c := by simp [rowsT, mailT, row, List.append_assoc]
  have h1 := sub_of (by decide) (sub_mail ha hb hc he hf hg) (by simp [lim]) (by rw [e2]; exact okS_rows (by (first | lia | omega)) (by (first | lia | omega)) (by (first | lia | omega)))
  rw [e2] at h1
  rw [quote_red h1]
  obtain ⟨a, rfl⟩ : ∃ k, a = k + 1 := ⟨a - 1, by (first | lia | omega)⟩
  obtain ⟨b, rfl⟩ : ∃ k, b = k + 1 := ⟨b - 1, by (first | lia | omega)⟩
  obtain ⟨c, rfl⟩ : ∃ k, c = k + 1 := ⟨c - 1, by (first | lia | omega)⟩
  have e3 : [[46, 46], List.replicate a 46 ++ [13, 10], [46, 46], List.replicate b 46 ++ [13, 10], [46, 46], List.replicate c 46 ++ [13, 10]].flatten = rowsT (a + 2) (b + 2) (c + 2) := by simp [rowsT, mailT, row, List.replicate_succ, List.append_assoc]
  rw [sub_of (by decide) (quote_rows (by (first | lia | omega)) (by (first | lia | omega)) (by (first | lia | omega))) (by simp [lim]) (by rw [e3]; exact okS_rows (by (first | lia | omega)) (by (first | lia | omega)) (by (first | lia | omega))), e3]
end Mine
/-! part 48 -/
namespace Mine
open PySem PySem.Calls PyProof.Rows
/-- a list of counting numbers -/
noncomputable abbrev J (n : Nat) : V := .int (n : Int)
noncomputable abbrev N (l : List Nat) : V := .list (l.map J)
theorem cloop_map {i : Nat} {g : El} {Γ : Cx} (o : V → List V) : ∀ (l : List V), (∀ v ∈ l, g (Γ.set i (.val v)) [] = some (o v)) → cloop i g Γ l = some (l.flatMap o)
  | [], _ => rfl
  | v :: r, h => by
    rw [cloop, h v (.head _), Option.bind_some, cloop_map o r (fun w hw => h w (.tail _ hw))]
    rfl
theorem pcomp_of {i m : Nat} {js : List Nat} {f g : El} {Γ : Cx} {σ : AH} {l : List V} (C : Cx) (o : V → List V) (hf : f Γ σ = some l) (hC : capt m js Γ = C) (hi : C[i]? = some .undef) (hg : ∀ v ∈ l, g (C.set i (.val v)) [] = some (o v)) (hl : (l.flatMap o).length ≤ lim) :
    pcomp i m js f g Γ σ = some (l.flatMap o) := by
  unfold pcomp
  rw [hf, Option.bind_some, hC, hi]
  simp only [cloop_map o l hg, Option.bind_some, if_pos hl]
theorem cfor_of {i : Nat} {f g : El} {Γ : Cx} {σ : AH} {l : List V} (o : V → List V) (hf : f Γ σ = some l) (hi : Γ[i]? = some .undef) (hg : ∀ v ∈ l, g (Γ.set i (.val v)) [] = some (o v)) : cfor i f g Γ σ = some (l.flatMap o) := by
  unfold cfor
  rw [hi]
  simp only [hf, Option.bind_some, cloop_map o l hg]
/-- one turn, one element -/
theorem pcomp_one {i m : Nat} {js : List Nat} {f : El} {e : E} {Γ : Cx} {σ : AH} {α : Type} {l : List α} (C : Cx) (k : α → V) (o : α → V) (hf : f Γ σ = some (l.map k)) (hC : capt m js Γ = C) (hi : C[i]? = some .undef) (hg : ∀ a ∈ l, e (C.set i (.val (k a))) [] = some (o a)) (hl : l.length ≤ lim) :
    pcomp i m js f (pone e) Γ σ = some (l.map o) := by
  unfold pcomp
  rw [hf, Option.bind_some, hC, hi]
  have key : ∀ l : List α, (∀ a ∈ l, e (C.set i (.val (k a))) [] = some (o a)) → cloop i (pone e) C (l.map k) = some (l.map o) := by
    intro l
    induction l with
    | nil => intro _; rfl
    | cons a l ih =>
      intro h
      rw [List.map_cons, cloop, ih (fun b hb => h b (.tail _ hb))]
      simp only [pone, h a (.head _)]
      rfl
  simp only [key l hg, Option.bind_some, List.length_map, if_pos hl]
/-! equality -/
theorem veq_int (k : Nat) (a b : Int) : veq k (.int a) (.int b) = (a == b) := by cases k <;> rfl
theorem alleq_ints (k : Nat) : ∀ a b : List Nat, alleq (veq k) (a.map J) (b.map J) = (a == b)
  | [], [] => rfl
  | [], _ :: _ => rfl
  | _ :: _, [] => rfl
  | x :: xs, y :: ys => by
    show (veq k (J x) (J y) && alleq (veq k) (xs.map J) (ys.map J)) = (x == y && xs == ys)
    rw [alleq_ints k xs ys, veq_int]
    congr 1
    rw [Bool.eq_iff_iff]; simp only [beq_iff_eq]; (first | lia | omega)
theorem lev_ints (k : Nat) (a : List Nat) : lev (k + 1) (N a) = true := by
  show (a.map J).all (lev k) = true
  rw [List.all_eq_true]
  intro y hy
  obtain ⟨x, _, rfl⟩ := List.mem_map.mp hy
  cases k <;> rfl
theorem eq_ints (a b : List Nat) : eqV (N a) (N b) = some (.bool (a == b)) := by
  unfold eqV
  rw [lev_ints, lev_ints, Bool.and_self, if_pos rfl]
  show some (V.bool (alleq (veq 3) (a.map J) (b.map J))) = _
  rw [alleq_ints]
/-! the least, the greatest -/
theorem ints_N (l : List Nat) : intsOf (l.map J) = some (l.map fun n : Nat => (n : Int)) := by
  induction l with
  | nil => rfl
  | cons a l ih => simp [intsOf, ih]
noncomputable def maxN : List Nat → Nat
  | [] => 0
  | x :: r => r.foldl max x
noncomputable def minN : List Nat → Nat
  | [] => 0
  | x :: r => r.foldl min x
theorem fold_max : ∀ (l : List Nat) (x : Nat), (l.map fun n : Nat => (n : Int)).foldl max (x : Int) = ((l.foldl max x : Nat) : Int)
  | [], x => rfl
  | a :: l, x => by
    rw [List.map_cons, List.foldl_cons, List.foldl_cons, ← fold_max l]
    congr 1; (first | lia | omega)
theorem fold_min : ∀ (l : List Nat) (x : Nat), (l.map fun n : Nat => (n : Int)).foldl min (x : Int) = ((l.foldl min x : Nat) : Int)
  | [], x => rfl
  | a :: l, x => by
    rw [List.map_cons, List.foldl_cons, List.foldl_cons, ← fold_min l]
    congr 1; (first | lia | omega)
theorem max_ok {l : List Nat} (h : l ≠ []) : onInts maxI (l.map J) = some (.int (maxN l : Int)) := by
  unfold onInts
  rw [ints_N, Option.bind_some]
  cases l with
  | nil => exact absurd rfl h
  | cons a l => simp only [List.map_cons, maxI, fold_max]; rfl
theorem min_ok {l : List Nat} (h : l ≠ []) : onInts minI (l.map J) = some (.int (minN l : Int)) := by
  unfold onInts
  rw [ints_N, Option.bind_some]
  cases l with
  | nil => exact absurd rfl h
  | cons a l => simp only [List.map_cons, minI, fold_min]; rfl
theorem sum_ok (l : List Nat) : onInts (fun ns => some ns.sum) (l.map J) = some (.int (l.sum : Int)) := by
  unfold onInts
  rw [ints_N, Option.bind_some]
  have : (l.map fun n : Nat => (n : Int)).sum = ((l.sum : Nat) : Int) := by
    induction l with
    | nil => rfl
    | cons a l ih => simp [ih]
  simp only [this]; rfl
theorem count_N (l : List Nat) (k : Nat) : countLV (N l) [.int (k : Int)] = some (.int ((l.count k : Nat) : Int)) := by
  unfold countLV
  simp only [ints_N, Option.map_some]
  congr 3
  induction l with
  | nil => rfl
  | cons a l ih =>
    simp only [List.map_cons, List.count_cons, ih]
    congr 1
    have : ((a : Int) == (k : Int)) = (a == k) := by rw [Bool.eq_iff_iff]; simp only [beq_iff_eq]; (first | lia | omega)
    rw [this]
theorem rng_N (a b : Nat) (hab : a ≤ b) : rng (a : Int) (b : Int) = (List.range (b - a)).map fun k => V.int ((a + k : Nat) : Int) := by
  unfold rng
  have : ((b : Int) - (a : Int)).toNat = b - a := by (first | lia | omega)
  rw [this]
  apply List.map_congr_left
  intro k _
  congr 1
/-- how often each number comes -/
noncomputable def shares (l : List Nat) : List Nat := (List.range (maxN l + 1 - minN l)).map fun k => l.count (minN l + k)
theorem foldl_max_ge : ∀ (l : List Nat) (x : Nat), x ≤ l.foldl max x
  | [], x => Nat.le_refl _
  | a :: l, x => Nat.le_trans (Nat.le_max_left x a) (foldl_max_ge l _)
theorem foldl_min_le : ∀ (l : List Nat) (x : Nat), l.foldl min x ≤ x
  | [], x => Nat.le_refl _
  | a :: l, x => Nat.le_trans (foldl_min_le l _) (Nat.min_le_left x a)
theorem min_le_max (l : List Nat) : minN l ≤ maxN l := by
  cases l with
  | nil => exact Nat.le_refl _
  | cons a l => exact Nat.le_trans (foldl_min_le l a) (foldl_max_ge l a)
theorem shares_ok {l : List Nat} (h : l ≠ []) (hm : maxN l ≤ 1000) : w_law_shares.1 [N l] = some (N (shares l)) := by
  have hmm := min_le_max l
  have e : w_law_shares.1 [N l] = ((((Option.map V.list (pcomp 0 1 [0] (fun Γ σ => (pcall (fn1 (onList (onInts minI))) (pcons (pv 0) fun x x_1 => some []) Γ σ).bind fun a => (p2 addV (pcall (fn1 (onList (onInts maxI))) (pcons (pv 0) fun x x_1 => some [])) (pk (.int 1)) Γ σ).bind fun b => match a, b with | .int a, .int b => if okR a b = true then some (rng a b) else none | _, _ => none)
      (pone (pmeth countLV (pv 1) (pcons (pv 0) fun x x_1 => some []))) ([.val (N l)] : Cx) [])).map fun v => (Fl.ret v, ([.val (N l)] : Cx), ([] : AH))).bind fun r => match r.1 with | .next => xnext r.2.1 r.2.2 | _ => some r).bind retV) := by rfl
  rw [e, pcomp_one [.undef, .val (N l)] (fun k => V.int ((minN l + k : Nat) : Int)) (fun k => V.int ((l.count (minN l + k) : Nat) : Int)) (l := List.range (maxN l + 1 - minN l))]
  · unfold shares N
    rw [List.map_map]; rfl
  · have e1 : pcall (fn1 (onList (onInts minI))) (pcons (pv 0) fun x x_1 => some []) ([.val (N l)] : Cx) ([] : AH) = onInts minI (l.map J) := rfl
    have e2 : p2 addV (pcall (fn1 (onList (onInts maxI))) (pcons (pv 0) fun x x_1 => some [])) (pk (.int 1)) ([.val (N l)] : Cx) ([] : AH) = (onInts maxI (l.map J)).bind fun a => addV a (.int 1) := rfl
    simp only [e1, e2, min_ok h, max_ok h, Option.bind_some, addV]
    rw [if_pos (by simp only [okR, Bool.and_eq_true, decide_eq_true_eq]; (first | lia | omega))]
    congr 1
    have := rng_N (minN l) (maxN l + 1) (by (first | lia | omega))
    rw [← this]; rfl
  · rfl
  · rfl
  · intro k hk
    exact count_N l (minN l + k)
  · simp [lim]; (first | lia | omega)
end Mine
/-! part 49 -/
namespace Mine
open PySem PySem.Calls PyProof.Rows
open PySem.Builtin.Str PySem.StrLaws
noncomputable abbrev orun (x y : List Nat) (limit : Nat) (l : List Nat) (st : Array Nat × Nat) : Array Nat × Nat := (forIn l st (occBody (strOf x) (strOf y) x.length limit)).run
theorem orun_yes {x y : List Nat} {limit i free : Nat} {l : List Nat} {f : Array Nat} (h1 : f.size < limit) (h2 : free ≤ i) (h3 : i + y.length ≤ x.length) (h4 : (x.drop i).take y.length = y) : orun x y limit (i :: l) (f, free) = orun x y limit l (f.push i, i + y.length) := by
  unfold orun
  rw [List.forIn_cons]
  unfold occBody
  have hl : (strOf y).length = y.length := len_strOf y
  rw [if_pos ⟨⟨⟨h1, h2⟩, by rw [hl]; exact h3⟩, by rw [subAt_eq]; simp [strOf, h4, Str.length]⟩, hl]
  rfl
theorem orun_no {x y : List Nat} {limit i free : Nat} {l : List Nat} {f : Array Nat} (h : i < free ∨ x.length < i + y.length ∨ (x.drop i).take y.length ≠ y) : orun x y limit (i :: l) (f, free) = orun x y limit l (f, free) := by
  unfold orun
  rw [List.forIn_cons]
  unfold occBody
  have hl : (strOf y).length = y.length := len_strOf y
  rw [if_neg]
  · rfl
  · rintro ⟨⟨⟨_, h2⟩, h3⟩, h4⟩
    rw [subAt_eq] at h4
    rw [hl] at h3
    simp [strOf, Str.length] at h4
    rcases h with h | h | h
    · exact absurd h2 (Nat.not_le.mpr h)
    · (first | lia | omega)
    · exact h h4
theorem occ_orun (x y : List Nat) : occurrences (strOf x) (strOf y) 0 (strOf x).length ((strOf x).length + 1) = (orun x y (x.length + 1) (List.range' 0 (x.length + 1)) (#[], 0)).1.toList := by
  rw [occ_eq, len_strOf]
  rfl
/-- one sign -/
theorem orun_one (x : List Nat) (c : Nat) : ∀ (suf : List Nat) (i free : Nat) (f : Array Nat), x.drop i = suf → i + suf.length = x.length → free ≤ i → f.size ≤ i → (orun x [c] (x.length + 1) (List.range' i (suf.length + 1)) (f, free)).1.size = f.size + suf.count c
  | [], i, free, f, h1, h2, h3, h4 => by
    show (orun x [c] (x.length + 1) [i] (f, free)).1.size = _
    rw [orun_no (.inr (.inl (by simp at h2 ⊢; (first | lia | omega))))]
    rfl
  | a :: r, i, free, f, h1, h2, h3, h4 => by
    have hd : x.drop (i + 1) = r := by rw [← List.drop_drop, h1]; rfl
    have hl : i + 1 + r.length = x.length := by simp at h2; (first | lia | omega)
    rw [List.length_cons, List.range'_succ]
    by_cases hc : a = c
    · subst hc
      rw [orun_yes (by (first | lia | omega)) h3 (by simp; (first | lia | omega)) (by rw [h1]; rfl)]
      show (orun x [a] (x.length + 1) (List.range' (i + 1) (r.length + 1)) (f.push i, i + 1)).1.size = _
      rw [orun_one x a r (i + 1) (i + 1) (f.push i) hd hl (Nat.le_refl _) (by simp; (first | lia | omega))]
      simp; (first | lia | omega)
    · rw [orun_no (.inr (.inr (by rw [h1]; simp; exact hc))), orun_one x c r (i + 1) free f hd hl (by (first | lia | omega)) (by (first | lia | omega))]
      simp [List.count_cons, hc]
theorem countS_one (x : List Nat) (c : Nat) : countSV (.str x) [.str [c]] = some (J (x.count c)) := by
  show some (V.int ((occurrences (strOf x) (strOf [c]) 0 (strOf x).length ((strOf x).length + 1)).length : Nat)) = _
  rw [occ_orun, Array.length_toList, orun_one x c x 0 0 #[] rfl (by simp) (Nat.le_refl _) (Nat.le_refl _)]
  simp
/-- both signs -/
noncomputable def occL : List Nat → Nat → List Nat
  | 13 :: 10 :: r, i => i :: occL r (i + 2)
  | _ :: r, i => occL r (i + 1)
  | [], _ => []
theorem occL_no {a : Nat} {r : List Nat} (i : Nat) (h : ¬ ∃ s, a :: r = 13 :: 10 :: s) : occL (a :: r) i = occL r (i + 1) := by
  rw [occL]
  rintro s rfl rfl
  exact h ⟨_, rfl⟩
theorem orun_two (x : List Nat) : ∀ (n : Nat) (suf : List Nat) (i free : Nat) (f : Array Nat), suf.length ≤ n → x.drop i = suf → i + suf.length = x.length → free ≤ i → f.size ≤ i → (orun x [13, 10] (x.length + 1) (List.range' i (suf.length + 1)) (f, free)).1.toList = f.toList ++ occL suf i
  | 0, [], i, free, f, hn, h1, h2, h3, h4 => by
    show (orun x [13, 10] (x.length + 1) [i] (f, free)).1.toList = _
    rw [orun_no (.inr (.inl (by simp at h2 ⊢; (first | lia | omega))))]
    simp [occL]; rfl
  | 0, a :: r, i, free, f, hn, h1, h2, h3, h4 => by simp at hn
  | n + 1, [], i, free, f, hn, h1, h2, h3, h4 => orun_two x n [] i free f (Nat.zero_le _) h1 h2 h3 h4
  | n + 1, a :: r, i, free, f, hn, h1, h2, h3, h4 => by
    have hd : x.drop (i + 1) = r := by rw [← List.drop_drop, h1]; rfl
    have hl : i + 1 + r.length = x.length := by simp at h2; (first | lia | omega)
    have hn' : r.length ≤ n := by simp at hn; (first | lia | omega)
    rw [List.length_cons, List.range'_succ]
    by_cases hc : ∃ s, a :: r = 13 :: 10 :: s
    · obtain ⟨s, e⟩ := hc
      cases e
      have hd2 : x.drop (i + 2) = s := by rw [show i + 2 = (i + 1) + 1 from rfl, ← List.drop_drop, hd]; rfl
      have hl2 : i + 2 + s.length = x.length := by simp at hl; (first | lia | omega)
      rw [orun_yes (by (first | lia | omega)) h3 (by simp; (first | lia | omega)) (by rw [h1]; rfl), List.length_cons, List.range'_succ, orun_no (.inl (by simp))]
      show (orun x [13, 10] (x.length + 1) (List.range' (i + 2) (s.length + 1)) (f.push i, i + 2)).1.toList = _
      rw [orun_two x n s (i + 2) (i + 2) (f.push i) (by simp at hn'; (first | lia | omega)) hd2 hl2 (Nat.le_refl _) (by simp; (first | lia | omega))]
      rw [occL]
      simp
    · rw [orun_no (.inr (.inr (fun e => hc ?_))), orun_two x n r (i + 1) free f hn' hd hl (by (first | lia | omega)) (by (first | lia | omega)), occL_no i hc]
      rw [h1] at e
      have e' : (a :: r).take 2 = [13, 10] := e
      refine ⟨(a :: r).drop 2, ?_⟩
      have := List.take_append_drop 2 (a :: r)
      rw [e'] at this
      exact this.symm
theorem occ_two (x : List Nat) : occurrences (strOf x) (strOf [13, 10]) 0 (strOf x).length ((strOf x).length + 1) = occL x 0 := by
  rw [occ_orun, orun_two x x.length x 0 0 #[] (Nat.le_refl _) rfl (by simp) (Nat.le_refl _) (Nat.le_refl _)]
  rfl
theorem occL_dots : ∀ (n i : Nat) (r : List Nat), occL (List.replicate n 46 ++ r) i = occL r (i + n)
  | 0, i, r => rfl
  | n + 1, i, r => by
    rw [List.replicate_succ, List.cons_append, occL_no i (by rintro ⟨s, e⟩; cases e), occL_dots n (i + 1) r]
    congr 1; (first | lia | omega)
theorem occL_rows (a b c : Nat) : occL (rowsT a b c) 0 = [a, a + 2 + b, a + 2 + b + 2 + c] := by
  unfold rowsT mailT row
  simp only [List.append_assoc, occL_dots, List.cons_append, List.nil_append, occL, Nat.zero_add]
end Mine
/-! part 50 -/
namespace Mine
open PySem PySem.Calls PyProof.Rows
open PySem.Builtin.Str PySem.StrLaws
theorem pfn_ret {xs : Names} {np : Nat} {f : E} {ps : List V} (Γ : Cx) (h : ps.length = np) (hΓ : ps.map .val ++ List.replicate (xs.length - np) .undef = Γ) : pfn xs np (xseq (xret f) xnext) ps = f Γ [] := by
  unfold pfn
  rw [if_pos h, hΓ]
  exact ret_only (o := f Γ [])
theorem p2_of {h : V → V → Option V} {f g : E} {Γ : Cx} {σ : AH} {a b : V} (ha : f Γ σ = some a) (hb : g Γ σ = some b) : p2 h f g Γ σ = h a b := by
  unfold p2; rw [ha, hb]; rfl
theorem p1_of {h : V → Option V} {f : E} {Γ : Cx} {σ : AH} {a : V} (ha : f Γ σ = some a) : p1 h f Γ σ = h a := by
  unfold p1; rw [ha]; rfl
theorem pcall_of {h : List V → Option V} {fs : El} {Γ : Cx} {σ : AH} {l : List V} (ha : fs Γ σ = some l) : pcall h fs Γ σ = h l := by
  unfold pcall; rw [ha]; rfl
theorem pcons_of {f : E} {g : El} {Γ : Cx} {σ : AH} {a : V} {l : List V} (ha : f Γ σ = some a) (hb : g Γ σ = some l) : pcons f g Γ σ = some (a :: l) := by
  unfold pcons; rw [ha, hb]; rfl
theorem pmeth_of {h : V → List V → Option V} {f : E} {fs : El} {Γ : Cx} {σ : AH} {a : V} {l : List V} (ha : f Γ σ = some a) (hb : fs Γ σ = some l) : pmeth h f fs Γ σ = h a l := by
  unfold pmeth; rw [ha, hb]; rfl
theorem pl_of {f : E} {Γ : Cx} {σ : AH} {l : List V} (ha : f Γ σ = some (.list l)) : pl f Γ σ = some l := by
  unfold pl; rw [ha]
/-- a row of dots -/
noncomputable abbrev D (n : Nat) : V := .str (List.replicate n 46)
theorem kind_ascii (x : List Nat) : decide (Builtin.Str.strKind (strOf x) < Builtin.Str.strKind (strOf [13, 10])) = false := by
  have h : Builtin.Str.strKind (strOf [13, 10]) = 1 := by decide +kernel
  rw [h, decide_eq_false_iff_not]
  unfold Builtin.Str.strKind
  split
  · (first | lia | omega)
  · split <;> (first | lia | omega)
theorem sub_list (x : List Nat) (i j : Nat) : (strSub (strOf x) i j).cps.toList = (x.drop i).take (j - i) := by
  unfold strSub strOf
  simp [List.take_drop]
theorem cut_at (xs ds ys : List Nat) (i j : Nat) (hi : i = xs.length) (hj : j = xs.length + ds.length) : ((xs ++ (ds ++ ys)).drop i).take (j - i) = ds := by
  subst hi hj
  simp
theorem split_rows {a b c : Nat} (ha : a ≤ 100) (hb : b ≤ 100) (hc : c ≤ 100) : splitV (.str (rowsT a b c)) [.str [13, 10]] = some (.list [D a, D b, D c, .str []]) := by
  have e1 : partsBetween (strOf (rowsT a b c)) [a, a + 2 + b, a + 2 + b + 2 + c] 2 = [strSub (strOf (rowsT a b c)) 0 a, strSub (strOf (rowsT a b c)) (a + 2) (a + 2 + b), strSub (strOf (rowsT a b c)) (a + 2 + b + 2) (a + 2 + b + 2 + c), strSub (strOf (rowsT a b c)) (a + 2 + b + 2 + c + 2) (strOf (rowsT a b c)).length] := rfl
  have hlen : (rowsT a b c).length = a + 2 + b + 2 + c + 2 := by simp [rowsT, mailT, row]; (first | lia | omega)
  have p1 : ((rowsT a b c).drop 0).take (a - 0) = List.replicate a 46 := by
    refine Eq.trans ?_ (cut_at [] (List.replicate a 46) ([13, 10] ++ (row b [13, 10] ++ row c [13, 10])) 0 a rfl (by simp))
    simp [rowsT, mailT, row, List.append_assoc]
  have p2 : ((rowsT a b c).drop (a + 2)).take (a + 2 + b - (a + 2)) = List.replicate b 46 := by
    refine Eq.trans ?_ (cut_at (row a [13, 10]) (List.replicate b 46) ([13, 10] ++ row c [13, 10]) (a + 2) (a + 2 + b) (by simp [row]) (by simp [row]))
    rw [show rowsT a b c = row a [13, 10] ++ (List.replicate b 46 ++ ([13, 10] ++ row c [13, 10])) by simp [rowsT, mailT, row, List.append_assoc]]
  have p3 : ((rowsT a b c).drop (a + 2 + b + 2)).take (a + 2 + b + 2 + c - (a + 2 + b + 2)) = List.replicate c 46 := by
    refine Eq.trans ?_ (cut_at (row a [13, 10] ++ row b [13, 10]) (List.replicate c 46) [13, 10] (a + 2 + b + 2) (a + 2 + b + 2 + c) (by simp [row]; (first | lia | omega)) (by simp [row]; (first | lia | omega)))
    rw [show rowsT a b c = (row a [13, 10] ++ row b [13, 10]) ++ (List.replicate c 46 ++ [13, 10]) by simp [rowsT, mailT, row, List.append_assoc]]
  have p4 : ((rowsT a b c).drop (a + 2 + b + 2 + c + 2)).take ((strOf (rowsT a b c)).length - (a + 2 + b + 2 + c + 2)) = [] := by
    rw [len_strOf, hlen]; simp
  have ok : ∀ n, n ≤ 100 → okS (List.replicate n 46) = true := fun n hn => okS_iff.mpr ⟨by simp [lim]; (first | lia | omega), fun x hx => by rw [List.eq_of_mem_replicate hx]; decide⟩
  have l1 : decide ((strOf (rowsT a b c)).length < (strOf [13, 10]).length) = false := by
    rw [len_strOf, len_strOf, hlen, decide_eq_false_iff_not]; simp
  have l2 : (strOf [13, 10]).length = 2 := rfl
  unfold splitV
  simp only [occ_two, occL_rows, l2, e1]
  rw [if_pos]
  · simp only [List.map_cons, List.map_nil, sub_list, p1, p2, p3, p4]
  · refine ⟨?_, rfl, rfl, by simp [lim], ?_⟩
    · rw [kind_ascii, ← l2, l1]; rfl
    · simp only [List.all_cons, List.all_nil, sub_list, p1, p2, p3, p4, ok a ha, ok b hb, ok c hc]; rfl
/-- the sizes of a crowd's rows -/
noncomputable def sizesN (a b c : Nat) (hs : List Nat) : List Nat := hs.flatMap fun h => [a + h, b + h, c + h]
theorem pix_nat {α : Type} (l : List α) (i : Nat) (hi : i ≤ 1000000) : pix l (i : Int) = l[i]? := by
  unfold pix
  rw [if_pos ⟨by (first | lia | omega), by (first | lia | omega)⟩, if_pos (by (first | lia | omega))]
  rfl
theorem psl_take {α : Type} (k : Nat) (l : List α) : psl none (some (k : Int)) l = l.take k := by
  unfold psl PySem.W.kms_lo PySem.W.kms_hi
  simp only [List.drop_zero, Nat.sub_zero]
  rw [if_neg (by (first | lia | omega))]
  by_cases h : k ≤ l.length
  · rw [show min (k : Int).toNat l.length = k by (first | lia | omega)]
  · rw [show min (k : Int).toNat l.length = l.length by (first | lia | omega), List.take_length, List.take_of_length_le (by (first | lia | omega))]
theorem crowd_split {a b c h : Nat} (ha : a ≤ 50) (hb : b ≤ 50) (hc : c ≤ 50) (h5 : h ≤ 50) {posts : List V} (hp : posts[h]? = some (.str (rowsT (a + h) (b + h) (c + h)))) :
    pmeth splitV (p2 itemV (pv 2) (pv 0)) (pcons (pk (V.str [13, 10])) fun x x_1 => some []) ([.val (J h), .undef, .val (.list posts)] : Cx) ([] : AH) = some (.list [D (a + h), D (b + h), D (c + h), .str []]) := by
  have e1 : itemV (.list posts) (J h) = some (.str (rowsT (a + h) (b + h) (c + h))) := by
    rw [itemV, pix_nat _ _ (by (first | lia | omega)), hp]
  rw [pmeth_of ((p2_of (a := .list posts) (b := J h) rfl rfl).trans e1) (l := [.str [13, 10]]) (pcons_of rfl rfl)]
  exact split_rows (by (first | lia | omega)) (by (first | lia | omega)) (by (first | lia | omega))
theorem take_three {x : Cx → AH → Option V} {Γ : Cx} {p q r t : V} (h : x Γ [] = some (.list [p, q, r, t])) : pl (fun Γ σ => Option.map V.list (psliceL (pl x) (fun x x_1 => some none) (ppart (pk (V.int 3))) Γ σ)) Γ [] = some [p, q, r] := by
  refine pl_of ?_
  have e6 : ppart (pk (V.int 3)) Γ [] = some (some ((3 : Nat) : Int)) := rfl
  unfold psliceL
  rw [pl_of h, e6]
  simp only [Option.bind_some, psl_take]
  rfl
theorem pone_of {f : E} {Γ : Cx} {σ : AH} {a : V} (h : f Γ σ = some a) : pone f Γ σ = some [a] := by unfold pone; rw [h]; rfl
theorem crowd_turn {a b c h : Nat} (ha : a ≤ 50) (hb : b ≤ 50) (hc : c ≤ 50) (h5 : h ≤ 50) {posts : List V} (hp : posts[h]? = some (.str (rowsT (a + h) (b + h) (c + h)))) :
    cfor 1 (pl fun Γ σ => Option.map V.list (psliceL (pl (pmeth splitV (p2 itemV (pv 2) (pv 0)) (pcons (pk (V.str [13, 10])) fun x x_1 => some []))) (fun x x_1 => some none) (ppart (pk (V.int 3))) Γ σ)) (pone (pv 1)) ([.val (J h), .undef, .val (.list posts)] : Cx) ([] : AH) = some [D (a + h), D (b + h), D (c + h)] := by
  refine (cfor_of (fun v => [v]) (take_three (crowd_split ha hb hc h5 hp)) rfl fun v _ => pone_of rfl).trans ?_
  rfl
/-- the rows of one hour -/
noncomputable def hourV (a b c : Nat) : V → List V
  | .int h => [D (a + h.toNat), D (b + h.toNat), D (c + h.toNat)]
  | _ => []
theorem hourV_J (a b c h : Nat) : hourV a b c (J h) = [D (a + h), D (b + h), D (c + h)] := by rw [hourV, Int.toNat_natCast]
theorem sizes_flat (a b c : Nat) : ∀ hs : List Nat, (hs.map J).flatMap (hourV a b c) = (sizesN a b c hs).map D
  | [] => rfl
  | h :: hs => by
    have e : sizesN a b c (h :: hs) = [a + h, b + h, c + h] ++ sizesN a b c hs := rfl
    rw [List.map_cons, List.flatMap_cons, sizes_flat a b c hs, hourV_J, e, List.map_append]; rfl
theorem sizes_len (a b c : Nat) : ∀ hs : List Nat, (sizesN a b c hs).length = 3 * hs.length
  | [] => rfl
  | h :: hs => by
    have e : sizesN a b c (h :: hs) = [a + h, b + h, c + h] ++ sizesN a b c hs := rfl
    rw [e, List.length_append, sizes_len a b c hs]; simp; (first | lia | omega)
theorem crowd_ok {a b c : Nat} (ha : a ≤ 50) (hb : b ≤ 50) (hc : c ≤ 50) {posts : List V} {hs : List Nat} (hl : hs.length ≤ 1000) (h50 : ∀ h ∈ hs, h ≤ 50) (hp : ∀ h ∈ hs, posts[h]? = some (.str (rowsT (a + h) (b + h) (c + h)))) :
    w_law_crowd.1 [.list posts, N hs] = some (.list ((sizesN a b c hs).map D)) := by
  unfold w_law_crowd
  dsimp only
  rw [pfn_ret [.val (.list posts), .val (N hs)]]
  rotate_left
  · rfl
  · rfl
  rw [pcomp_of [.undef, .undef, .val (.list posts)] (hourV a b c) (l := hs.map J) rfl rfl rfl]
  · rw [sizes_flat]; rfl
  · intro v hv
    obtain ⟨h, hh, rfl⟩ := List.mem_map.mp hv
    rw [hourV_J]
    exact crowd_turn ha hb hc (h50 h hh) (hp h hh)
  · rw [sizes_flat, List.length_map, sizes_len]; unfold lim; (first | lia | omega)
/-! a lead -/
noncomputable def leadT (l : List Nat) : List Nat := l.flatMap fun n => List.replicate n 32 ++ [9]
theorem strs_of {α : Type} (f : α → List Nat) : ∀ l : List α, strsOf (l.map fun a => V.str (f a)) = some (l.map f)
  | [] => rfl
  | a :: l => by simp [strsOf, strs_of f l]
theorem mul_str (c n : Nat) (hn : n ≤ 1000) : mulV (.str [c]) (J n) = some (.str (List.replicate n c)) := by
  show (if [c].length * ((n : Nat) : Int).toNat ≤ lim ∧ -(2 ^ 62) ≤ ((n : Nat) : Int) ∧ ((n : Nat) : Int) ≤ 2 ^ 20 then some (V.str (List.replicate ((n : Nat) : Int).toNat [c]).flatten) else none) = _
  rw [if_pos ⟨by simp [lim]; (first | lia | omega), by (first | lia | omega), by (first | lia | omega)⟩]
  have : (List.replicate ((n : Nat) : Int).toNat [c]).flatten = List.replicate n c := by
    rw [Int.toNat_natCast]
    induction n with
    | zero => rfl
    | succ n ih => rw [List.replicate_succ, List.flatten_cons, ih (by (first | lia | omega)), List.replicate_succ]; rfl
  rw [this]
theorem add_str (x y : List Nat) (h : x.length + y.length ≤ lim) : addV (.str x) (.str y) = some (.str (x ++ y)) := by
  show (if x.length + y.length ≤ lim then some (V.str (x ++ y)) else none) = _
  rw [if_pos h]
theorem leadT_len (l : List Nat) : (leadT l).length = l.sum + l.length := by
  unfold leadT
  induction l with
  | nil => rfl
  | cons a l ih => rw [List.flatMap_cons, List.length_append, ih]; simp; (first | lia | omega)
theorem leadT_ok {l : List Nat} (h : l.sum + l.length ≤ 100000) : okS (leadT l) = true := by
  refine okS_iff.mpr ⟨by rw [leadT_len]; unfold lim; (first | lia | omega), fun x hx => ?_⟩
  unfold leadT at hx
  obtain ⟨n, _, hx⟩ := List.mem_flatMap.mp hx
  simp only [List.mem_append, List.mem_replicate, List.mem_singleton] at hx
  (first | lia | omega)
theorem sum_ge : ∀ (l : List Nat) (n : Nat), n ∈ l → n ≤ l.sum
  | a :: l, n, h => by
    rcases List.mem_cons.mp h with rfl | h
    · simp
    · have := sum_ge l n h
      simp; (first | lia | omega)
theorem lead_ok {l : List Nat} (h : l.sum + l.length ≤ 1000) : w_law_lead.1 [N l] = some (.str (leadT l)) := by
  unfold w_law_lead
  dsimp only
  rw [pfn_ret [.val (N l)]]
  rotate_left
  · rfl
  · rfl
  have e : pcomp 0 1 [] (pl (pv 0)) (pone (p2 addV (p2 mulV (pk (V.str [32])) (pv 0)) (pk (V.str [9])))) ([.val (N l)] : Cx) ([] : AH) = some (l.map fun n => V.str (List.replicate n 32 ++ [9])) := by
    refine pcomp_one [.undef] J (fun n => V.str (List.replicate n 32 ++ [9])) rfl rfl rfl (fun n hn => ?_) (by unfold lim; (first | lia | omega))
    have h1 := sum_ge l n hn
    show (mulV (.str [32]) (J n)).bind (fun x => addV x (.str [9])) = _
    rw [mul_str 32 n (by (first | lia | omega)), Option.bind_some, add_str _ _ (by simp [lim]; (first | lia | omega))]
  have e2 : pmeth joinV (pk (V.str [])) (pcons (fun Γ σ => Option.map V.list (pcomp 0 1 [] (pl (pv 0)) (pone (p2 addV (p2 mulV (pk (V.str [32])) (pv 0)) (pk (V.str [9])))) Γ σ)) fun x x_1 => some []) ([.val (N l)] : Cx) ([] : AH) =
      ((Option.map V.list (pcomp 0 1 [] (pl (pv 0)) (pone (p2 addV (p2 mulV (pk (V.str [32])) (pv 0)) (pk (V.str [9])))) ([.val (N l)] : Cx) ([] : AH))).bind fun a => some [a]).bind fun as => joinV (.str []) as := by
    show Option.bind (some (V.str [])) (fun a => Option.bind (Option.bind (Option.map V.list (pcomp 0 1 [] (pl (pv 0)) (pone (p2 addV (p2 mulV (pk (V.str [32])) (pv 0)) (pk (V.str [9])))) ([.val (N l)] : Cx) ([] : AH))) fun a => Option.map (a :: ·) (some [])) fun as => joinV a as) = _
    rfl
  rw [e2, e]
  show (strsOf (l.map fun n => V.str (List.replicate n 32 ++ [9]))).bind (fun ns => if okS ns.flatten then some (V.str ns.flatten) else none) = _
  rw [strs_of (fun n => List.replicate n 32 ++ [9]), Option.bind_some]
  have : (l.map fun n => List.replicate n 32 ++ [9]).flatten = leadT l := by unfold leadT; rw [List.flatMap_def]
  rw [this, leadT_ok (by (first | lia | omega))]
  rfl
theorem lead_count (l : List Nat) : (leadT l).count 32 = l.sum := by
  unfold leadT
  induction l with
  | nil => rfl
  | cons a l ih => rw [List.flatMap_cons, List.count_append, ih, List.sum_cons]; simp [List.count_append]
end Mine
/-! part 51 -/
namespace Mine
open PySem PySem.Calls PyProof.Rows
theorem rng_0 (b : Nat) : rng 0 (b : Int) = (List.range b).map J := by
  unfold rng
  rw [show ((b : Int) - 0).toNat = b by (first | lia | omega)]
  apply List.map_congr_left
  intro k _
  show V.int (0 + (k : Int)) = V.int (k : Int)
  rw [Int.zero_add]
theorem okR_0 {b : Nat} (h : b ≤ 1000000) : okR 0 (b : Int) = true := by
  simp only [okR, Bool.and_eq_true, decide_eq_true_eq]; (first | lia | omega)
theorem pfn_run {xs : Names} {np : Nat} {f : S} {ps : List V} (Γ : Cx) (h : ps.length = np) (hΓ : ps.map .val ++ List.replicate (xs.length - np) .undef = Γ) : pfn xs np f ps = (f Γ []).bind retV := by
  unfold pfn
  rw [if_pos h, hΓ]
theorem xseq_of {f g : S} {Γ Γ' : Cx} {σ σ' : AH} (h : f Γ σ = some (.next, Γ', σ')) : xseq f g Γ σ = g Γ' σ' := by
  unfold xseq; rw [h]; rfl
theorem xset_of {i : Nat} {f : E} {Γ : Cx} {σ : AH} {v : V} (h : f Γ σ = some v) : xset i f Γ σ = some (.next, Γ.set i (.val v), σ) := by
  unfold xset; rw [h]; rfl
theorem xret_of {f g : E} {Γ : Cx} {σ : AH} {v : V} {k : S} (h : f Γ σ = some v) : xseq (xret f) k Γ σ = some (.ret v, Γ, σ) := by
  unfold xseq xret; rw [h]; rfl
/-- the mail as it is sent on -/
noncomputable def sentV (a b c : Nat) (e f g : List Nat) : Nat → V
  | 0 => .str (mailT a b c e f g)
  | k + 1 => .str (rowsT (a + (k + 1)) (b + (k + 1)) (c + (k + 1)))
noncomputable def postsV (a b c n : Nat) : List V := (List.range n).map fun h => .str (rowsT (a + h) (b + h) (c + h))
section
variable {a b c : Nat} {e f g : List Nat} (ha : 1 ≤ a ∧ a ≤ 4) (hb : 1 ≤ b ∧ b ≤ 4) (hc : 1 ≤ c ∧ c ≤ 4) (he : e ∈ ends) (hf : f ∈ ends) (hg : g ∈ ends)
include ha hb hc he hf hg
theorem sent_step {k : Nat} (hk : k ≤ 2) : w_quotedata.1 [sentV a b c e f g k] = some (sentV a b c e f g (k + 1)) := by
  match k, hk with
  | 0, _ => exact quote_mail ha hb hc he hf hg
  | k + 1, hk =>
    have := quote_ok (a := a + k) (b := b + k) (c := c + k) (by (first | lia | omega)) (by (first | lia | omega)) (by (first | lia | omega))
    simp only [Nat.add_assoc] at this
    exact this
theorem posts_loop (m L : Sl) : ∀ (vs : List V) (k : Nat) (l : List V) (x : Sl), k + vs.length ≤ 3 → l.length + vs.length ≤ 100 → ∃ y, pfor 4 (xseq (xset 3 (pcall w_quotedata.val (pcons (pv 3) fun x x_1 => some []))) (xseq (xappend 2 (pv 3)) xnext)) vs
      [m, L, .ref 0, .val (sentV a b c e f g k), x] [.list l] = some (.next, [m, L, .ref 0, .val (sentV a b c e f g (k + vs.length)), y], [.list (l ++ (List.range' (k + 1) vs.length).map (sentV a b c e f g))])
  | [], k, l, x, h1, h2 => ⟨x, by rw [pfor]; simp⟩
  | v :: vs, k, l, x, h1, h2 => by
    have e1 := sent_step ha hb hc he hf hg (k := k) (by simp at h1; (first | lia | omega))
    have e2 : xset 3 (pcall w_quotedata.val (pcons (pv 3) fun x x_1 => some [])) [m, L, .ref 0, .val (sentV a b c e f g k), .val v] [.list l] = some (.next, [m, L, .ref 0, .val (sentV a b c e f g (k + 1)), .val v], [.list l]) :=
      xset_of ((pcall_of (l := [sentV a b c e f g k]) (pcons_of rfl rfl)).trans e1)
    have e3 : xappend 2 (pv 3) [m, L, .ref 0, .val (sentV a b c e f g (k + 1)), .val v] [.list l] = some (.next, [m, L, .ref 0, .val (sentV a b c e f g (k + 1)), .val v], [.list (l ++ [sentV a b c e f g (k + 1)])]) := by
      show (if l.length + 1 ≤ lim then _ else _) = _
      rw [if_pos (by simp at h2; unfold lim; (first | lia | omega))]; rfl
    obtain ⟨y, hy⟩ := posts_loop m L vs (k + 1) (l ++ [sentV a b c e f g (k + 1)]) (.val v) (by simp at h1; (first | lia | omega)) (by simp at h2 ⊢; (first | lia | omega))
    refine ⟨y, ?_⟩
    rw [pfor]
    show Option.bind (xseq _ _ [m, L, .ref 0, .val (sentV a b c e f g k), .val v] [.list l]) _ = _
    rw [xseq_of e2, xseq_of e3]
    refine Eq.trans hy ?_
    rw [List.length_cons, List.range'_succ, List.map_cons, show k + 1 + vs.length = k + (vs.length + 1) by (first | lia | omega)]
    simp
theorem posts_ok {n : Nat} (hn : n ≤ 3) : w_law_posts.1 [.str (mailT a b c e f g), J n] = some (.list (postsV a b c (n + 1))) := by
  unfold w_law_posts
  dsimp only
  rw [pfn_run [.val (.str (mailT a b c e f g)), .val (J n), .undef, .undef, .undef]]
  rotate_left
  · rfl
  · rfl
  have e0 : (fun Γ σ => (pcons (pcall w_fix_eols.val (pcons (pv 0) fun x x_1 => some [])) (fun x x_1 => some []) Γ σ).bind fun l => if l.length ≤ lim then some l else none : El) [.val (.str (mailT a b c e f g)), .val (J n), .undef, .undef, .undef] [] = some [.str (rowsT a b c)] := by
    show Option.bind (pcons _ _ _ _) _ = _
    rw [pcons_of ((pcall_of (l := [.str (mailT a b c e f g)]) (pcons_of rfl rfl)).trans (fix_mail ha hb hc he hf hg)) rfl, Option.bind_some, if_pos (by simp [lim])]
  have e1 : xmut 2 (fun Γ σ => (pcons (pcall w_fix_eols.val (pcons (pv 0) fun x x_1 => some [])) (fun x x_1 => some []) Γ σ).bind fun l => if l.length ≤ lim then some l else none) [.val (.str (mailT a b c e f g)), .val (J n), .undef, .undef, .undef] [] =
      some (.next, [.val (.str (mailT a b c e f g)), .val (J n), .ref 0, .undef, .undef], [.list [.str (rowsT a b c)]]) := by
    unfold xmut; rw [e0]; rfl
  obtain ⟨y, hy⟩ := posts_loop ha hb hc he hf hg (.val (.str (mailT a b c e f g))) (.val (J n)) ((List.range n).map J) 0 [.str (rowsT a b c)] .undef (by simp; (first | lia | omega)) (by simp; (first | lia | omega))
  show Option.bind (xseq _ _ [.val (.str (mailT a b c e f g)), .val (J n), .undef, .undef, .undef] []) retV = _
  rw [xseq_of e1, xseq_of (xset_of (v := .str (mailT a b c e f g)) rfl)]
  have e2 : xfor 4 (fun Γ σ => (pv 1 Γ σ).bind fun v => match v with | V.int b => if okR 0 b = true then some (rng 0 b) else none | x => none) (xseq (xset 3 (pcall w_quotedata.val (pcons (pv 3) fun x x_1 => some []))) (xseq (xappend 2 (pv 3)) xnext))
      [.val (.str (mailT a b c e f g)), .val (J n), .ref 0, .val (.str (mailT a b c e f g)), .undef] [.list [.str (rowsT a b c)]] = some (.next, [.val (.str (mailT a b c e f g)), .val (J n), .ref 0, .val (sentV a b c e f g (0 + ((List.range n).map J).length)), y], [.list ([.str (rowsT a b c)] ++ (List.range' (0 + 1) ((List.range n).map J).length).map (sentV a b c e f g))]) := by
    show Option.bind (if okR 0 (n : Int) = true then some (rng 0 (n : Int)) else none) _ = _
    rw [okR_0 (by (first | lia | omega)), if_pos rfl, rng_0]
    exact hy
  refine Eq.trans (congrArg (Option.bind · retV) (xseq_of e2)) ?_
  show some (V.list ([V.str (rowsT a b c)] ++ _)) = _
  unfold postsV
  rw [List.length_map, List.length_range, List.range_eq_range', List.range'_succ, List.map_cons]
  congr 2
  rw [List.singleton_append]
  congr 1
  apply List.map_congr_left
  intro k hk
  obtain ⟨k, rfl⟩ : ∃ j, k = j + 1 := ⟨k - 1, by simp [List.mem_range'_1] at hk; (first | lia | omega)⟩
  rfl
end
/-- pairs of numbers, the second the less -/
noncomputable def pairsN {α : Type} (n : Nat) (o : Nat → Nat → α) : List α := (List.range n).flatMap fun i => (List.range i).map fun k => o i k
theorem pairs_of {m n : Nat} {js : List Nat} {f f' : El} {e : E} {Γ : Cx} {σ : AH} (rest : Cx) (o : Nat → Nat → V) (hn : n ≤ 20)
    (hf : f Γ σ = some ((List.range n).map J)) (hC : capt m js Γ = .undef :: .undef :: rest) (hf' : ∀ i, i < n → f' (.val (J i) :: .undef :: rest) [] = some ((List.range i).map J))
    (he : ∀ i k, i < n → k < i → e (.val (J i) :: .val (J k) :: rest) [] = some (o i k)) : pcomp 0 m js f (cfor 1 f' (pone e)) Γ σ = some (pairsN n o) := by
  have key : ∀ l : List Nat, (∀ i ∈ l, i < n) → cloop 0 (cfor 1 f' (pone e)) (.undef :: .undef :: rest) (l.map J) = some (l.flatMap fun i => (List.range i).map fun k => o i k) := by
    intro l
    induction l with
    | nil => intro _; rfl
    | cons i l ih =>
      intro h
      have hi := h i (.head _)
      have e1 : cfor 1 f' (pone e) (.val (J i) :: .undef :: rest) [] = some ((List.range i).map fun k => o i k) := by
        unfold cfor
        show Option.bind (f' (.val (J i) :: .undef :: rest) []) _ = _
        rw [hf' i hi, Option.bind_some]
        have : ∀ r : List Nat, (∀ k ∈ r, k < i) → cloop 1 (pone e) (.val (J i) :: .undef :: rest) (r.map J) = some (r.map fun k => o i k) := by
          intro r
          induction r with
          | nil => intro _; rfl
          | cons k r ih2 =>
            intro hr
            rw [List.map_cons, cloop, ih2 (fun j hj => hr j (.tail _ hj))]
            show Option.bind (pone e (.val (J i) :: .val (J k) :: rest) []) _ = _
            rw [pone_of (he i k hi (hr k (.head _)))]
            rfl
        exact this _ fun k hk => List.mem_range.mp hk
      rw [List.map_cons, cloop, ih fun j hj => h j (.tail _ hj)]
      show Option.bind (cfor 1 f' (pone e) (.val (J i) :: .undef :: rest) []) _ = _
      rw [e1]
      rfl
  have hl : (pairsN n o).length ≤ n * n := by
    have : ∀ l : List Nat, (∀ i ∈ l, i < n) → (l.flatMap fun i => (List.range i).map fun k => o i k).length ≤ n * l.length := by
      intro l
      induction l with
      | nil => intro _; exact Nat.zero_le _
      | cons i l ih =>
        intro h
        rw [List.flatMap_cons, List.length_append, List.length_map, List.length_range, List.length_cons, Nat.mul_succ]
        have := ih fun j hj => h j (.tail _ hj)
        have := h i (.head _)
        (first | lia | omega)
    have := this (List.range n) fun i hi => List.mem_range.mp hi
    rwa [List.length_range] at this
  have hsq : n * n ≤ 400 := Nat.mul_le_mul hn hn
  unfold pcomp
  rw [hf, Option.bind_some, hC]
  show Option.bind (cloop 0 _ (.undef :: .undef :: rest) _) _ = _
  rw [key _ fun i hi => List.mem_range.mp hi, Option.bind_some]
  show (if (pairsN n o).length ≤ lim then some (pairsN n o) else none) = _
  rw [if_pos (Nat.le_trans hl (by unfold lim; (first | lia | omega)))]
/-- how far apart -/
noncomputable def dist (a b : Nat) : Nat := (a - b) + (b - a)
theorem lev_D (b : Int) {n m : Nat} (hn : n ≤ 7) (hm : m ≤ 7) : w_levenshtein_distance.1 [D n, D m, .int b] = some (J (2 * dist n m)) := by
  rw [lev_dots b n m hn hm]
  unfold dist
  congr 2
  show _ = (((2 * ((n - m) + (m - n)) : Nat)) : Int)
  (first | lia | omega)
end Mine
/-! part 52 -/
namespace Mine
open PySem PySem.Calls PyProof.Rows
theorem fr_1_1 : ∀ k : Nat, k < 14 → ∃ r : Int, w_levenshtein_distance.1 [.str ([40] ++ List.replicate 1 46 ++ [120]), .str ([91] ++ List.replicate 1 46 ++ [88]), .int ((k : Int) - 3)] = some (.int r) ∧ (if (k : Int) - 3 + 1 < r then (k : Int) - 3 + 1 else r) = (if (k : Int) - 3 + 1 < 3 then (k : Int) - 3 + 1 else 3)
  | 0, _ => ⟨-2, (by kernel_rfl : w_levenshtein_distance.1 [.str ([40] ++ List.replicate 1 46 ++ [120]), .str ([91] ++ List.replicate 1 46 ++ [88]), .int (-3)] = some (.int (-2))), by decide⟩
  | 1, _ => ⟨-1, (by kernel_rfl : w_levenshtein_distance.1 [.str ([40] ++ List.replicate 1 46 ++ [120]), .str ([91] ++ List.replicate 1 46 ++ [88]), .int (-2)] = some (.int (-1))), by decide⟩
  | 2, _ => ⟨0, (by kernel_rfl : w_levenshtein_distance.1 [.str ([40] ++ List.replicate 1 46 ++ [120]), .str ([91] ++ List.replicate 1 46 ++ [88]), .int (-1)] = some (.int (0))), by decide⟩
  | 3, _ => ⟨1, (by kernel_rfl : w_levenshtein_distance.1 [.str ([40] ++ List.replicate 1 46 ++ [120]), .str ([91] ++ List.replicate 1 46 ++ [88]), .int (0)] = some (.int (1))), by decide⟩
  | 4, _ => ⟨2, (by kernel_rfl : w_levenshtein_distance.1 [.str ([40] ++ List.replicate 1 46 ++ [120]), .str ([91] ++ List.replicate 1 46 ++ [88]), .int (1)] = some (.int (2))), by decide⟩
  | 5, _ => ⟨3, (by kernel_rfl : w_levenshtein_distance.1 [.str ([40] ++ List.replicate 1 46 ++ [120]), .str ([91] ++ List.replicate 1 46 ++ [88]), .int (2)] = some (.int (3))), by decide⟩
  | 6, _ => ⟨3, (by kernel_rfl : w_levenshtein_distance.1 [.str ([40] ++ List.replicate 1 46 ++ [120]), .str ([91] ++ List.replicate 1 46 ++ [88]), .int (3)] = some (.int (3))), by decide⟩
  | 7, _ => ⟨3, (by kernel_rfl : w_levenshtein_distance.1 [.str ([40] ++ List.replicate 1 46 ++ [120]), .str ([91] ++ List.replicate 1 46 ++ [88]), .int (4)] = some (.int (3))), by decide⟩
  | 8, _ => ⟨3, (by kernel_rfl : w_levenshtein_distance.1 [.str ([40] ++ List.replicate 1 46 ++ [120]), .str ([91] ++ List.replicate 1 46 ++ [88]), .int (5)] = some (.int (3))), by decide⟩
  | 9, _ => ⟨3, (by kernel_rfl : w_levenshtein_distance.1 [.str ([40] ++ List.replicate 1 46 ++ [120]), .str ([91] ++ List.replicate 1 46 ++ [88]), .int (6)] = some (.int (3))), by decide⟩
  | 10, _ => ⟨3, (by kernel_rfl : w_levenshtein_distance.1 [.str ([40] ++ List.replicate 1 46 ++ [120]), .str ([91] ++ List.replicate 1 46 ++ [88]), .int (7)] = some (.int (3))), by decide⟩
  | 11, _ => ⟨3, (by kernel_rfl : w_levenshtein_distance.1 [.str ([40] ++ List.replicate 1 46 ++ [120]), .str ([91] ++ List.replicate 1 46 ++ [88]), .int (8)] = some (.int (3))), by decide⟩
  | 12, _ => ⟨3, (by kernel_rfl : w_levenshtein_distance.1 [.str ([40] ++ List.replicate 1 46 ++ [120]), .str ([91] ++ List.replicate 1 46 ++ [88]), .int (9)] = some (.int (3))), by decide⟩
  | 13, _ => ⟨3, (by kernel_rfl : w_levenshtein_distance.1 [.str ([40] ++ List.replicate 1 46 ++ [120]), .str ([91] ++ List.replicate 1 46 ++ [88]), .int (10)] = some (.int (3))), by decide⟩
  | k + 14, h => absurd h (by (first | lia | omega))
theorem fr_1_2 : ∀ k : Nat, k < 14 → ∃ r : Int, w_levenshtein_distance.1 [.str ([40] ++ List.replicate 1 46 ++ [120]), .str ([91] ++ List.replicate 2 46 ++ [88]), .int ((k : Int) - 3)] = some (.int r) ∧ (if (k : Int) - 3 + 1 < r then (k : Int) - 3 + 1 else r) = (if (k : Int) - 3 + 1 < 5 then (k : Int) - 3 + 1 else 5)
  | 0, _ => ⟨-2, (by kernel_rfl : w_levenshtein_distance.1 [.str ([40] ++ List.replicate 1 46 ++ [120]), .str ([91] ++ List.replicate 2 46 ++ [88]), .int (-3)] = some (.int (-2))), by decide⟩
  | 1, _ => ⟨-1, (by kernel_rfl : w_levenshtein_distance.1 [.str ([40] ++ List.replicate 1 46 ++ [120]), .str ([91] ++ List.replicate 2 46 ++ [88]), .int (-2)] = some (.int (-1))), by decide⟩
  | 2, _ => ⟨0, (by kernel_rfl : w_levenshtein_distance.1 [.str ([40] ++ List.replicate 1 46 ++ [120]), .str ([91] ++ List.replicate 2 46 ++ [88]), .int (-1)] = some (.int (0))), by decide⟩
  | 3, _ => ⟨1, (by kernel_rfl : w_levenshtein_distance.1 [.str ([40] ++ List.replicate 1 46 ++ [120]), .str ([91] ++ List.replicate 2 46 ++ [88]), .int (0)] = some (.int (1))), by decide⟩
  | 4, _ => ⟨2, (by kernel_rfl : w_levenshtein_distance.1 [.str ([40] ++ List.replicate 1 46 ++ [120]), .str ([91] ++ List.replicate 2 46 ++ [88]), .int (1)] = some (.int (2))), by decide⟩
  | 5, _ => ⟨3, (by kernel_rfl : w_levenshtein_distance.1 [.str ([40] ++ List.replicate 1 46 ++ [120]), .str ([91] ++ List.replicate 2 46 ++ [88]), .int (2)] = some (.int (3))), by decide⟩
  | 6, _ => ⟨4, (by kernel_rfl : w_levenshtein_distance.1 [.str ([40] ++ List.replicate 1 46 ++ [120]), .str ([91] ++ List.replicate 2 46 ++ [88]), .int (3)] = some (.int (4))), by decide⟩
  | 7, _ => ⟨5, (by kernel_rfl : w_levenshtein_distance.1 [.str ([40] ++ List.replicate 1 46 ++ [120]), .str ([91] ++ List.replicate 2 46 ++ [88]), .int (4)] = some (.int (5))), by decide⟩
  | 8, _ => ⟨5, (by kernel_rfl : w_levenshtein_distance.1 [.str ([40] ++ List.replicate 1 46 ++ [120]), .str ([91] ++ List.replicate 2 46 ++ [88]), .int (5)] = some (.int (5))), by decide⟩
  | 9, _ => ⟨5, (by kernel_rfl : w_levenshtein_distance.1 [.str ([40] ++ List.replicate 1 46 ++ [120]), .str ([91] ++ List.replicate 2 46 ++ [88]), .int (6)] = some (.int (5))), by decide⟩
  | 10, _ => ⟨5, (by kernel_rfl : w_levenshtein_distance.1 [.str ([40] ++ List.replicate 1 46 ++ [120]), .str ([91] ++ List.replicate 2 46 ++ [88]), .int (7)] = some (.int (5))), by decide⟩
  | 11, _ => ⟨5, (by kernel_rfl : w_levenshtein_distance.1 [.str ([40] ++ List.replicate 1 46 ++ [120]), .str ([91] ++ List.replicate 2 46 ++ [88]), .int (8)] = some (.int (5))), by decide⟩
  | 12, _ => ⟨5, (by kernel_rfl : w_levenshtein_distance.1 [.str ([40] ++ List.replicate 1 46 ++ [120]), .str ([91] ++ List.replicate 2 46 ++ [88]), .int (9)] = some (.int (5))), by decide⟩
  | 13, _ => ⟨5, (by kernel_rfl : w_levenshtein_distance.1 [.str ([40] ++ List.replicate 1 46 ++ [120]), .str ([91] ++ List.replicate 2 46 ++ [88]), .int (10)] = some (.int (5))), by decide⟩
  | k + 14, h => absurd h (by (first | lia | omega))
theorem fr_1_3 : ∀ k : Nat, k < 14 → ∃ r : Int, w_levenshtein_distance.1 [.str ([40] ++ List.replicate 1 46 ++ [120]), .str ([91] ++ List.replicate 3 46 ++ [88]), .int ((k : Int) - 3)] = some (.int r) ∧ (if (k : Int) - 3 + 1 < r then (k : Int) - 3 + 1 else r) = (if (k : Int) - 3 + 1 < 7 then (k : Int) - 3 + 1 else 7)
  | 0, _ => ⟨-2, (by kernel_rfl : w_levenshtein_distance.1 [.str ([40] ++ List.replicate 1 46 ++ [120]), .str ([91] ++ List.replicate 3 46 ++ [88]), .int (-3)] = some (.int (-2))), by decide⟩
  | 1, _ => ⟨-1, (by kernel_rfl : w_levenshtein_distance.1 [.str ([40] ++ List.replicate 1 46 ++ [120]), .str ([91] ++ List.replicate 3 46 ++ [88]), .int (-2)] = some (.int (-1))), by decide⟩
  | 2, _ => ⟨0, (by kernel_rfl : w_levenshtein_distance.1 [.str ([40] ++ List.replicate 1 46 ++ [120]), .str ([91] ++ List.replicate 3 46 ++ [88]), .int (-1)] = some (.int (0))), by decide⟩
  | 3, _ => ⟨1, (by kernel_rfl : w_levenshtein_distance.1 [.str ([40] ++ List.replicate 1 46 ++ [120]), .str ([91] ++ List.replicate 3 46 ++ [88]), .int (0)] = some (.int (1))), by decide⟩
  | 4, _ => ⟨2, (by kernel_rfl : w_levenshtein_distance.1 [.str ([40] ++ List.replicate 1 46 ++ [120]), .str ([91] ++ List.replicate 3 46 ++ [88]), .int (1)] = some (.int (2))), by decide⟩
  | 5, _ => ⟨3, (by kernel_rfl : w_levenshtein_distance.1 [.str ([40] ++ List.replicate 1 46 ++ [120]), .str ([91] ++ List.replicate 3 46 ++ [88]), .int (2)] = some (.int (3))), by decide⟩
  | 6, _ => ⟨4, (by kernel_rfl : w_levenshtein_distance.1 [.str ([40] ++ List.replicate 1 46 ++ [120]), .str ([91] ++ List.replicate 3 46 ++ [88]), .int (3)] = some (.int (4))), by decide⟩
  | 7, _ => ⟨5, (by kernel_rfl : w_levenshtein_distance.1 [.str ([40] ++ List.replicate 1 46 ++ [120]), .str ([91] ++ List.replicate 3 46 ++ [88]), .int (4)] = some (.int (5))), by decide⟩
  | 8, _ => ⟨6, (by kernel_rfl : w_levenshtein_distance.1 [.str ([40] ++ List.replicate 1 46 ++ [120]), .str ([91] ++ List.replicate 3 46 ++ [88]), .int (5)] = some (.int (6))), by decide⟩
  | 9, _ => ⟨7, (by kernel_rfl : w_levenshtein_distance.1 [.str ([40] ++ List.replicate 1 46 ++ [120]), .str ([91] ++ List.replicate 3 46 ++ [88]), .int (6)] = some (.int (7))), by decide⟩
  | 10, _ => ⟨7, (by kernel_rfl : w_levenshtein_distance.1 [.str ([40] ++ List.replicate 1 46 ++ [120]), .str ([91] ++ List.replicate 3 46 ++ [88]), .int (7)] = some (.int (7))), by decide⟩
  | 11, _ => ⟨7, (by kernel_rfl : w_levenshtein_distance.1 [.str ([40] ++ List.replicate 1 46 ++ [120]), .str ([91] ++ List.replicate 3 46 ++ [88]), .int (8)] = some (.int (7))), by decide⟩
  | 12, _ => ⟨7, (by kernel_rfl : w_levenshtein_distance.1 [.str ([40] ++ List.replicate 1 46 ++ [120]), .str ([91] ++ List.replicate 3 46 ++ [88]), .int (9)] = some (.int (7))), by decide⟩
  | 13, _ => ⟨7, (by kernel_rfl : w_levenshtein_distance.1 [.str ([40] ++ List.replicate 1 46 ++ [120]), .str ([91] ++ List.replicate 3 46 ++ [88]), .int (10)] = some (.int (7))), by decide⟩
  | k + 14, h => absurd h (by (first | lia | omega))
theorem fr_1_4 : ∀ k : Nat, k < 14 → ∃ r : Int, w_levenshtein_distance.1 [.str ([40] ++ List.replicate 1 46 ++ [120]), .str ([91] ++ List.replicate 4 46 ++ [88]), .int ((k : Int) - 3)] = some (.int r) ∧ (if (k : Int) - 3 + 1 < r then (k : Int) - 3 + 1 else r) = (if (k : Int) - 3 + 1 < 9 then (k : Int) - 3 + 1 else 9)
  | 0, _ => ⟨-2, (by kernel_rfl : w_levenshtein_distance.1 [.str ([40] ++ List.replicate 1 46 ++ [120]), .str ([91] ++ List.replicate 4 46 ++ [88]), .int (-3)] = some (.int (-2))), by decide⟩
  | 1, _ => ⟨-1, (by kernel_rfl : w_levenshtein_distance.1 [.str ([40] ++ List.replicate 1 46 ++ [120]), .str ([91] ++ List.replicate 4 46 ++ [88]), .int (-2)] = some (.int (-1))), by decide⟩
  | 2, _ => ⟨0, (by kernel_rfl : w_levenshtein_distance.1 [.str ([40] ++ List.replicate 1 46 ++ [120]), .str ([91] ++ List.replicate 4 46 ++ [88]), .int (-1)] = some (.int (0))), by decide⟩
  | 3, _ => ⟨1, (by kernel_rfl : w_levenshtein_distance.1 [.str ([40] ++ List.replicate 1 46 ++ [120]), .str ([91] ++ List.replicate 4 46 ++ [88]), .int (0)] = some (.int (1))), by decide⟩
  | 4, _ => ⟨2, (by kernel_rfl : w_levenshtein_distance.1 [.str ([40] ++ List.replicate 1 46 ++ [120]), .str ([91] ++ List.replicate 4 46 ++ [88]), .int (1)] = some (.int (2))), by decide⟩
  | 5, _ => ⟨3, (by kernel_rfl : w_levenshtein_distance.1 [.str ([40] ++ List.replicate 1 46 ++ [120]), .str ([91] ++ List.replicate 4 46 ++ [88]), .int (2)] = some (.int (3))), by decide⟩
  | 6, _ => ⟨4, (by kernel_rfl : w_levenshtein_distance.1 [.str ([40] ++ List.replicate 1 46 ++ [120]), .str ([91] ++ List.replicate 4 46 ++ [88]), .int (3)] = some (.int (4))), by decide⟩
  | 7, _ => ⟨5, (by kernel_rfl : w_levenshtein_distance.1 [.str ([40] ++ List.replicate 1 46 ++ [120]), .str ([91] ++ List.replicate 4 46 ++ [88]), .int (4)] = some (.int (5))), by decide⟩
  | 8, _ => ⟨6, (by kernel_rfl : w_levenshtein_distance.1 [.str ([40] ++ List.replicate 1 46 ++ [120]), .str ([91] ++ List.replicate 4 46 ++ [88]), .int (5)] = some (.int (6))), by decide⟩
  | 9, _ => ⟨7, (by kernel_rfl : w_levenshtein_distance.1 [.str ([40] ++ List.replicate 1 46 ++ [120]), .str ([91] ++ List.replicate 4 46 ++ [88]), .int (6)] = some (.int (7))), by decide⟩
  | 10, _ => ⟨8, (by kernel_rfl : w_levenshtein_distance.1 [.str ([40] ++ List.replicate 1 46 ++ [120]), .str ([91] ++ List.replicate 4 46 ++ [88]), .int (7)] = some (.int (8))), by decide⟩
  | 11, _ => ⟨9, (by kernel_rfl : w_levenshtein_distance.1 [.str ([40] ++ List.replicate 1 46 ++ [120]), .str ([91] ++ List.replicate 4 46 ++ [88]), .int (8)] = some (.int (9))), by decide⟩
  | 12, _ => ⟨9, (by kernel_rfl : w_levenshtein_distance.1 [.str ([40] ++ List.replicate 1 46 ++ [120]), .str ([91] ++ List.replicate 4 46 ++ [88]), .int (9)] = some (.int (9))), by decide⟩
  | 13, _ => ⟨9, (by kernel_rfl : w_levenshtein_distance.1 [.str ([40] ++ List.replicate 1 46 ++ [120]), .str ([91] ++ List.replicate 4 46 ++ [88]), .int (10)] = some (.int (9))), by decide⟩
  | k + 14, h => absurd h (by (first | lia | omega))
theorem fr_2_1 : ∀ k : Nat, k < 14 → ∃ r : Int, w_levenshtein_distance.1 [.str ([40] ++ List.replicate 2 46 ++ [120]), .str ([91] ++ List.replicate 1 46 ++ [88]), .int ((k : Int) - 3)] = some (.int r) ∧ (if (k : Int) - 3 + 1 < r then (k : Int) - 3 + 1 else r) = (if (k : Int) - 3 + 1 < 5 then (k : Int) - 3 + 1 else 5)
  | 0, _ => ⟨-2, (by kernel_rfl : w_levenshtein_distance.1 [.str ([40] ++ List.replicate 2 46 ++ [120]), .str ([91] ++ List.replicate 1 46 ++ [88]), .int (-3)] = some (.int (-2))), by decide⟩
  | 1, _ => ⟨-1, (by kernel_rfl : w_levenshtein_distance.1 [.str ([40] ++ List.replicate 2 46 ++ [120]), .str ([91] ++ List.replicate 1 46 ++ [88]), .int (-2)] = some (.int (-1))), by decide⟩
  | 2, _ => ⟨0, (by kernel_rfl : w_levenshtein_distance.1 [.str ([40] ++ List.replicate 2 46 ++ [120]), .str ([91] ++ List.replicate 1 46 ++ [88]), .int (-1)] = some (.int (0))), by decide⟩
  | 3, _ => ⟨1, (by kernel_rfl : w_levenshtein_distance.1 [.str ([40] ++ List.replicate 2 46 ++ [120]), .str ([91] ++ List.replicate 1 46 ++ [88]), .int (0)] = some (.int (1))), by decide⟩
  | 4, _ => ⟨2, (by kernel_rfl : w_levenshtein_distance.1 [.str ([40] ++ List.replicate 2 46 ++ [120]), .str ([91] ++ List.replicate 1 46 ++ [88]), .int (1)] = some (.int (2))), by decide⟩
  | 5, _ => ⟨3, (by kernel_rfl : w_levenshtein_distance.1 [.str ([40] ++ List.replicate 2 46 ++ [120]), .str ([91] ++ List.replicate 1 46 ++ [88]), .int (2)] = some (.int (3))), by decide⟩
  | 6, _ => ⟨4, (by kernel_rfl : w_levenshtein_distance.1 [.str ([40] ++ List.replicate 2 46 ++ [120]), .str ([91] ++ List.replicate 1 46 ++ [88]), .int (3)] = some (.int (4))), by decide⟩
  | 7, _ => ⟨5, (by kernel_rfl : w_levenshtein_distance.1 [.str ([40] ++ List.replicate 2 46 ++ [120]), .str ([91] ++ List.replicate 1 46 ++ [88]), .int (4)] = some (.int (5))), by decide⟩
  | 8, _ => ⟨5, (by kernel_rfl : w_levenshtein_distance.1 [.str ([40] ++ List.replicate 2 46 ++ [120]), .str ([91] ++ List.replicate 1 46 ++ [88]), .int (5)] = some (.int (5))), by decide⟩
  | 9, _ => ⟨5, (by kernel_rfl : w_levenshtein_distance.1 [.str ([40] ++ List.replicate 2 46 ++ [120]), .str ([91] ++ List.replicate 1 46 ++ [88]), .int (6)] = some (.int (5))), by decide⟩
  | 10, _ => ⟨5, (by kernel_rfl : w_levenshtein_distance.1 [.str ([40] ++ List.replicate 2 46 ++ [120]), .str ([91] ++ List.replicate 1 46 ++ [88]), .int (7)] = some (.int (5))), by decide⟩
  | 11, _ => ⟨5, (by kernel_rfl : w_levenshtein_distance.1 [.str ([40] ++ List.replicate 2 46 ++ [120]), .str ([91] ++ List.replicate 1 46 ++ [88]), .int (8)] = some (.int (5))), by decide⟩
  | 12, _ => ⟨5, (by kernel_rfl : w_levenshtein_distance.1 [.str ([40] ++ List.replicate 2 46 ++ [120]), .str ([91] ++ List.replicate 1 46 ++ [88]), .int (9)] = some (.int (5))), by decide⟩
  | 13, _ => ⟨5, (by kernel_rfl : w_levenshtein_distance.1 [.str ([40] ++ List.replicate 2 46 ++ [120]), .str ([91] ++ List.replicate 1 46 ++ [88]), .int (10)] = some (.int (5))), by decide⟩
  | k + 14, h => absurd h (by (first | lia | omega))
theorem fr_2_2 : ∀ k : Nat, k < 14 → ∃ r : Int, w_levenshtein_distance.1 [.str ([40] ++ List.replicate 2 46 ++ [120]), .str ([91] ++ List.replicate 2 46 ++ [88]), .int ((k : Int) - 3)] = some (.int r) ∧ (if (k : Int) - 3 + 1 < r then (k : Int) - 3 + 1 else r) = (if (k : Int) - 3 + 1 < 3 then (k : Int) - 3 + 1 else 3)
  | 0, _ => ⟨-2, (by kernel_rfl : w_levenshtein_distance.1 [.str ([40] ++ List.replicate 2 46 ++ [120]), .str ([91] ++ List.replicate 2 46 ++ [88]), .int (-3)] = some (.int (-2))), by decide⟩
  | 1, _ => ⟨-1, (by kernel_rfl : w_levenshtein_distance.1 [.str ([40] ++ List.replicate 2 46 ++ [120]), .str ([91] ++ List.replicate 2 46 ++ [88]), .int (-2)] = some (.int (-1))), by decide⟩
  | 2, _ => ⟨0, (by kernel_rfl : w_levenshtein_distance.1 [.str ([40] ++ List.replicate 2 46 ++ [120]), .str ([91] ++ List.replicate 2 46 ++ [88]), .int (-1)] = some (.int (0))), by decide⟩
  | 3, _ => ⟨1, (by kernel_rfl : w_levenshtein_distance.1 [.str ([40] ++ List.replicate 2 46 ++ [120]), .str ([91] ++ List.replicate 2 46 ++ [88]), .int (0)] = some (.int (1))), by decide⟩
  | 4, _ => ⟨2, (by kernel_rfl : w_levenshtein_distance.1 [.str ([40] ++ List.replicate 2 46 ++ [120]), .str ([91] ++ List.replicate 2 46 ++ [88]), .int (1)] = some (.int (2))), by decide⟩
  | 5, _ => ⟨3, (by kernel_rfl : w_levenshtein_distance.1 [.str ([40] ++ List.replicate 2 46 ++ [120]), .str ([91] ++ List.replicate 2 46 ++ [88]), .int (2)] = some (.int (3))), by decide⟩
  | 6, _ => ⟨3, (by kernel_rfl : w_levenshtein_distance.1 [.str ([40] ++ List.replicate 2 46 ++ [120]), .str ([91] ++ List.replicate 2 46 ++ [88]), .int (3)] = some (.int (3))), by decide⟩
  | 7, _ => ⟨3, (by kernel_rfl : w_levenshtein_distance.1 [.str ([40] ++ List.replicate 2 46 ++ [120]), .str ([91] ++ List.replicate 2 46 ++ [88]), .int (4)] = some (.int (3))), by decide⟩
  | 8, _ => ⟨3, (by kernel_rfl : w_levenshtein_distance.1 [.str ([40] ++ List.replicate 2 46 ++ [120]), .str ([91] ++ List.replicate 2 46 ++ [88]), .int (5)] = some (.int (3))), by decide⟩
  | 9, _ => ⟨3, (by kernel_rfl : w_levenshtein_distance.1 [.str ([40] ++ List.replicate 2 46 ++ [120]), .str ([91] ++ List.replicate 2 46 ++ [88]), .int (6)] = some (.int (3))), by decide⟩
  | 10, _ => ⟨3, (by kernel_rfl : w_levenshtein_distance.1 [.str ([40] ++ List.replicate 2 46 ++ [120]), .str ([91] ++ List.replicate 2 46 ++ [88]), .int (7)] = some (.int (3))), by decide⟩
  | 11, _ => ⟨3, (by kernel_rfl : w_levenshtein_distance.1 [.str ([40] ++ List.replicate 2 46 ++ [120]), .str ([91] ++ List.replicate 2 46 ++ [88]), .int (8)] = some (.int (3))), by decide⟩
  | 12, _ => ⟨3, (by kernel_rfl : w_levenshtein_distance.1 [.str ([40] ++ List.replicate 2 46 ++ [120]), .str ([91] ++ List.replicate 2 46 ++ [88]), .int (9)] = some (.int (3))), by decide⟩
  | 13, _ => ⟨3, (by kernel_rfl : w_levenshtein_distance.1 [.str ([40] ++ List.replicate 2 46 ++ [120]), .str ([91] ++ List.replicate 2 46 ++ [88]), .int (10)] = some (.int (3))), by decide⟩
  | k + 14, h => absurd h (by (first | lia | omega))
theorem fr_2_3 : ∀ k : Nat, k < 14 → ∃ r : Int, w_levenshtein_distance.1 [.str ([40] ++ List.replicate 2 46 ++ [120]), .str ([91] ++ List.replicate 3 46 ++ [88]), .int ((k : Int) - 3)] = some (.int r) ∧ (if (k : Int) - 3 + 1 < r then (k : Int) - 3 + 1 else r) = (if (k : Int) - 3 + 1 < 5 then (k : Int) - 3 + 1 else 5)
  | 0, _ => ⟨-2, (by kernel_rfl : w_levenshtein_distance.1 [.str ([40] ++ List.replicate 2 46 ++ [120]), .str ([91] ++ List.replicate 3 46 ++ [88]), .int (-3)] = some (.int (-2))), by decide⟩
  | 1, _ => ⟨-1, (by kernel_rfl : w_levenshtein_distance.1 [.str ([40] ++ List.replicate 2 46 ++ [120]), .str ([91] ++ List.replicate 3 46 ++ [88]), .int (-2)] = some (.int (-1))), by decide⟩
  | 2, _ => ⟨0, (by kernel_rfl : w_levenshtein_distance.1 [.str ([40] ++ List.replicate 2 46 ++ [120]), .str ([91] ++ List.replicate 3 46 ++ [88]), .int (-1)] = some (.int (0))), by decide⟩
  | 3, _ => ⟨1, (by kernel_rfl : w_levenshtein_distance.1 [.str ([40] ++ List.replicate 2 46 ++ [120]), .str ([91] ++ List.replicate 3 46 ++ [88]), .int (0)] = some (.int (1))), by decide⟩
  | 4, _ => ⟨2, (by kernel_rfl : w_levenshtein_distance.1 [.str ([40] ++ List.replicate 2 46 ++ [120]), .str ([91] ++ List.replicate 3 46 ++ [88]), .int (1)] = some (.int (2))), by decide⟩
  | 5, _ => ⟨3, (by kernel_rfl : w_levenshtein_distance.1 [.str ([40] ++ List.replicate 2 46 ++ [120]), .str ([91] ++ List.replicate 3 46 ++ [88]), .int (2)] = some (.int (3))), by decide⟩
  | 6, _ => ⟨4, (by kernel_rfl : w_levenshtein_distance.1 [.str ([40] ++ List.replicate 2 46 ++ [120]), .str ([91] ++ List.replicate 3 46 ++ [88]), .int (3)] = some (.int (4))), by decide⟩
  | 7, _ => ⟨5, (by kernel_rfl : w_levenshtein_distance.1 [.str ([40] ++ List.replicate 2 46 ++ [120]), .str ([91] ++ List.replicate 3 46 ++ [88]), .int (4)] = some (.int (5))), by decide⟩
  | 8, _ => ⟨5, (by kernel_rfl : w_levenshtein_distance.1 [.str ([40] ++ List.replicate 2 46 ++ [120]), .str ([91] ++ List.replicate 3 46 ++ [88]), .int (5)] = some (.int (5))), by decide⟩
  | 9, _ => ⟨5, (by kernel_rfl : w_levenshtein_distance.1 [.str ([40] ++ List.replicate 2 46 ++ [120]), .str ([91] ++ List.replicate 3 46 ++ [88]), .int (6)] = some (.int (5))), by decide⟩
  | 10, _ => ⟨5, (by kernel_rfl : w_levenshtein_distance.1 [.str ([40] ++ List.replicate 2 46 ++ [120]), .str ([91] ++ List.replicate 3 46 ++ [88]), .int (7)] = some (.int (5))), by decide⟩
  | 11, _ => ⟨5, (by kernel_rfl : w_levenshtein_distance.1 [.str ([40] ++ List.replicate 2 46 ++ [120]), .str ([91] ++ List.replicate 3 46 ++ [88]), .int (8)] = some (.int (5))), by decide⟩
  | 12, _ => ⟨5, (by kernel_rfl : w_levenshtein_distance.1 [.str ([40] ++ List.replicate 2 46 ++ [120]), .str ([91] ++ List.replicate 3 46 ++ [88]), .int (9)] = some (.int (5))), by decide⟩
  | 13, _ => ⟨5, (by kernel_rfl : w_levenshtein_distance.1 [.str ([40] ++ List.replicate 2 46 ++ [120]), .str ([91] ++ List.replicate 3 46 ++ [88]), .int (10)] = some (.int (5))), by decide⟩
  | k + 14, h => absurd h (by (first | lia | omega))
theorem fr_2_4 : ∀ k : Nat, k < 14 → ∃ r : Int, w_levenshtein_distance.1 [.str ([40] ++ List.replicate 2 46 ++ [120]), .str ([91] ++ List.replicate 4 46 ++ [88]), .int ((k : Int) - 3)] = some (.int r) ∧ (if (k : Int) - 3 + 1 < r then (k : Int) - 3 + 1 else r) = (if (k : Int) - 3 + 1 < 7 then (k : Int) - 3 + 1 else 7)
  | 0, _ => ⟨-2, (by kernel_rfl : w_levenshtein_distance.1 [.str ([40] ++ List.replicate 2 46 ++ [120]), .str ([91] ++ List.replicate 4 46 ++ [88]), .int (-3)] = some (.int (-2))), by decide⟩
  | 1, _ => ⟨-1, (by kernel_rfl : w_levenshtein_distance.1 [.str ([40] ++ List.replicate 2 46 ++ [120]), .str ([91] ++ List.replicate 4 46 ++ [88]), .int (-2)] = some (.int (-1))), by decide⟩
  | 2, _ => ⟨0, (by kernel_rfl : w_levenshtein_distance.1 [.str ([40] ++ List.replicate 2 46 ++ [120]), .str ([91] ++ List.replicate 4 46 ++ [88]), .int (-1)] = some (.int (0))), by decide⟩
  | 3, _ => ⟨1, (by kernel_rfl : w_levenshtein_distance.1 [.str ([40] ++ List.replicate 2 46 ++ [120]), .str ([91] ++ List.replicate 4 46 ++ [88]), .int (0)] = some (.int (1))), by decide⟩
  | 4, _ => ⟨2, (by kernel_rfl : w_levenshtein_distance.1 [.str ([40] ++ List.replicate 2 46 ++ [120]), .str ([91] ++ List.replicate 4 46 ++ [88]), .int (1)] = some (.int (2))), by decide⟩
  | 5, _ => ⟨3, (by kernel_rfl : w_levenshtein_distance.1 [.str ([40] ++ List.replicate 2 46 ++ [120]), .str ([91] ++ List.replicate 4 46 ++ [88]), .int (2)] = some (.int (3))), by decide⟩
  | 6, _ => ⟨4, (by kernel_rfl : w_levenshtein_distance.1 [.str ([40] ++ List.replicate 2 46 ++ [120]), .str ([91] ++ List.replicate 4 46 ++ [88]), .int (3)] = some (.int (4))), by decide⟩
  | 7, _ => ⟨5, (by kernel_rfl : w_levenshtein_distance.1 [.str ([40] ++ List.replicate 2 46 ++ [120]), .str ([91] ++ List.replicate 4 46 ++ [88]), .int (4)] = some (.int (5))), by decide⟩
  | 8, _ => ⟨6, (by kernel_rfl : w_levenshtein_distance.1 [.str ([40] ++ List.replicate 2 46 ++ [120]), .str ([91] ++ List.replicate 4 46 ++ [88]), .int (5)] = some (.int (6))), by decide⟩
  | 9, _ => ⟨7, (by kernel_rfl : w_levenshtein_distance.1 [.str ([40] ++ List.replicate 2 46 ++ [120]), .str ([91] ++ List.replicate 4 46 ++ [88]), .int (6)] = some (.int (7))), by decide⟩
  | 10, _ => ⟨7, (by kernel_rfl : w_levenshtein_distance.1 [.str ([40] ++ List.replicate 2 46 ++ [120]), .str ([91] ++ List.replicate 4 46 ++ [88]), .int (7)] = some (.int (7))), by decide⟩
  | 11, _ => ⟨7, (by kernel_rfl : w_levenshtein_distance.1 [.str ([40] ++ List.replicate 2 46 ++ [120]), .str ([91] ++ List.replicate 4 46 ++ [88]), .int (8)] = some (.int (7))), by decide⟩
  | 12, _ => ⟨7, (by kernel_rfl : w_levenshtein_distance.1 [.str ([40] ++ List.replicate 2 46 ++ [120]), .str ([91] ++ List.replicate 4 46 ++ [88]), .int (9)] = some (.int (7))), by decide⟩
  | 13, _ => ⟨7, (by kernel_rfl : w_levenshtein_distance.1 [.str ([40] ++ List.replicate 2 46 ++ [120]), .str ([91] ++ List.replicate 4 46 ++ [88]), .int (10)] = some (.int (7))), by decide⟩
  | k + 14, h => absurd h (by (first | lia | omega))
theorem fr_3_1 : ∀ k : Nat, k < 14 → ∃ r : Int, w_levenshtein_distance.1 [.str ([40] ++ List.replicate 3 46 ++ [120]), .str ([91] ++ List.replicate 1 46 ++ [88]), .int ((k : Int) - 3)] = some (.int r) ∧ (if (k : Int) - 3 + 1 < r then (k : Int) - 3 + 1 else r) = (if (k : Int) - 3 + 1 < 7 then (k : Int) - 3 + 1 else 7)
  | 0, _ => ⟨-2, (by kernel_rfl : w_levenshtein_distance.1 [.str ([40] ++ List.replicate 3 46 ++ [120]), .str ([91] ++ List.replicate 1 46 ++ [88]), .int (-3)] = some (.int (-2))), by decide⟩
  | 1, _ => ⟨-1, (by kernel_rfl : w_levenshtein_distance.1 [.str ([40] ++ List.replicate 3 46 ++ [120]), .str ([91] ++ List.replicate 1 46 ++ [88]), .int (-2)] = some (.int (-1))), by decide⟩
  | 2, _ => ⟨0, (by kernel_rfl : w_levenshtein_distance.1 [.str ([40] ++ List.replicate 3 46 ++ [120]), .str ([91] ++ List.replicate 1 46 ++ [88]), .int (-1)] = some (.int (0))), by decide⟩
  | 3, _ => ⟨1, (by kernel_rfl : w_levenshtein_distance.1 [.str ([40] ++ List.replicate 3 46 ++ [120]), .str ([91] ++ List.replicate 1 46 ++ [88]), .int (0)] = some (.int (1))), by decide⟩
  | 4, _ => ⟨2, (by kernel_rfl : w_levenshtein_distance.1 [.str ([40] ++ List.replicate 3 46 ++ [120]), .str ([91] ++ List.replicate 1 46 ++ [88]), .int (1)] = some (.int (2))), by decide⟩
  | 5, _ => ⟨3, (by kernel_rfl : w_levenshtein_distance.1 [.str ([40] ++ List.replicate 3 46 ++ [120]), .str ([91] ++ List.replicate 1 46 ++ [88]), .int (2)] = some (.int (3))), by decide⟩
  | 6, _ => ⟨4, (by kernel_rfl : w_levenshtein_distance.1 [.str ([40] ++ List.replicate 3 46 ++ [120]), .str ([91] ++ List.replicate 1 46 ++ [88]), .int (3)] = some (.int (4))), by decide⟩
  | 7, _ => ⟨5, (by kernel_rfl : w_levenshtein_distance.1 [.str ([40] ++ List.replicate 3 46 ++ [120]), .str ([91] ++ List.replicate 1 46 ++ [88]), .int (4)] = some (.int (5))), by decide⟩
  | 8, _ => ⟨6, (by kernel_rfl : w_levenshtein_distance.1 [.str ([40] ++ List.replicate 3 46 ++ [120]), .str ([91] ++ List.replicate 1 46 ++ [88]), .int (5)] = some (.int (6))), by decide⟩
  | 9, _ => ⟨7, (by kernel_rfl : w_levenshtein_distance.1 [.str ([40] ++ List.replicate 3 46 ++ [120]), .str ([91] ++ List.replicate 1 46 ++ [88]), .int (6)] = some (.int (7))), by decide⟩
  | 10, _ => ⟨7, (by kernel_rfl : w_levenshtein_distance.1 [.str ([40] ++ List.replicate 3 46 ++ [120]), .str ([91] ++ List.replicate 1 46 ++ [88]), .int (7)] = some (.int (7))), by decide⟩
  | 11, _ => ⟨7, (by kernel_rfl : w_levenshtein_distance.1 [.str ([40] ++ List.replicate 3 46 ++ [120]), .str ([91] ++ List.replicate 1 46 ++ [88]), .int (8)] = some (.int (7))), by decide⟩
  | 12, _ => ⟨7, (by kernel_rfl : w_levenshtein_distance.1 [.str ([40] ++ List.replicate 3 46 ++ [120]), .str ([91] ++ List.replicate 1 46 ++ [88]), .int (9)] = some (.int (7))), by decide⟩
  | 13, _ => ⟨7, (by kernel_rfl : w_levenshtein_distance.1 [.str ([40] ++ List.replicate 3 46 ++ [120]), .str ([91] ++ List.replicate 1 46 ++ [88]), .int (10)] = some (.int (7))), by decide⟩
  | k + 14, h => absurd h (by (first | lia | omega))
theorem fr_3_2 : ∀ k : Nat, k < 14 → ∃ r : Int, w_levenshtein_distance.1 [.str ([40] ++ List.replicate 3 46 ++ [120]), .str ([91] ++ List.replicate 2 46 ++ [88]), .int ((k : Int) - 3)] = some (.int r) ∧ (if (k : Int) - 3 + 1 < r then (k : Int) - 3 + 1 else r) = (if (k : Int) - 3 + 1 < 5 then (k : Int) - 3 + 1 else 5)
  | 0, _ => ⟨-2, (by kernel_rfl : w_levenshtein_distance.1 [.str ([40] ++ List.replicate 3 46 ++ [120]), .str ([91] ++ List.replicate 2 46 ++ [88]), .int (-3)] = some (.int (-2))), by decide⟩
  | 1, _ => ⟨-1, (by kernel_rfl : w_levenshtein_distance.1 [.str ([40] ++ List.replicate 3 46 ++ [120]), .str ([91] ++ List.replicate 2 46 ++ [88]), .int (-2)] = some (.int (-1))), by decide⟩
  | 2, _ => ⟨0, (by kernel_rfl : w_levenshtein_distance.1 [.str ([40] ++ List.replicate 3 46 ++ [120]), .str ([91] ++ List.replicate 2 46 ++ [88]), .int (-1)] = some (.int (0))), by decide⟩
  | 3, _ => ⟨1, (by kernel_rfl : w_levenshtein_distance.1 [.str ([40] ++ List.replicate 3 46 ++ [120]), .str ([91] ++ List.replicate 2 46 ++ [88]), .int (0)] = some (.int (1))), by decide⟩
  | 4, _ => ⟨2, (by kernel_rfl : w_levenshtein_distance.1 [.str ([40] ++ List.replicate 3 46 ++ [120]), .str ([91] ++ List.replicate 2 46 ++ [88]), .int (1)] = some (.int (2))), by decide⟩
  | 5, _ => ⟨3, (by kernel_rfl : w_levenshtein_distance.1 [.str ([40] ++ List.replicate 3 46 ++ [120]), .str ([91] ++ List.replicate 2 46 ++ [88]), .int (2)] = some (.int (3))), by decide⟩
  | 6, _ => ⟨4, (by kernel_rfl : w_levenshtein_distance.1 [.str ([40] ++ List.replicate 3 46 ++ [120]), .str ([91] ++ List.replicate 2 46 ++ [88]), .int (3)] = some (.int (4))), by decide⟩
  | 7, _ => ⟨5, (by kernel_rfl : w_levenshtein_distance.1 [.str ([40] ++ List.replicate 3 46 ++ [120]), .str ([91] ++ List.replicate 2 46 ++ [88]), .int (4)] = some (.int (5))), by decide⟩
  | 8, _ => ⟨5, (by kernel_rfl : w_levenshtein_distance.1 [.str ([40] ++ List.replicate 3 46 ++ [120]), .str ([91] ++ List.replicate 2 46 ++ [88]), .int (5)] = some (.int (5))), by decide⟩
  | 9, _ => ⟨5, (by kernel_rfl : w_levenshtein_distance.1 [.str ([40] ++ List.replicate 3 46 ++ [120]), .str ([91] ++ List.replicate 2 46 ++ [88]), .int (6)] = some (.int (5))), by decide⟩
  | 10, _ => ⟨5, (by kernel_rfl : w_levenshtein_distance.1 [.str ([40] ++ List.replicate 3 46 ++ [120]), .str ([91] ++ List.replicate 2 46 ++ [88]), .int (7)] = some (.int (5))), by decide⟩
  | 11, _ => ⟨5, (by kernel_rfl : w_levenshtein_distance.1 [.str ([40] ++ List.replicate 3 46 ++ [120]), .str ([91] ++ List.replicate 2 46 ++ [88]), .int (8)] = some (.int (5))), by decide⟩
  | 12, _ => ⟨5, (by kernel_rfl : w_levenshtein_distance.1 [.str ([40] ++ List.replicate 3 46 ++ [120]), .str ([91] ++ List.replicate 2 46 ++ [88]), .int (9)] = some (.int (5))), by decide⟩
  | 13, _ => ⟨5, (by kernel_rfl : w_levenshtein_distance.1 [.str ([40] ++ List.replicate 3 46 ++ [120]), .str ([91] ++ List.replicate 2 46 ++ [88]), .int (10)] = some (.int (5))), by decide⟩
  | k + 14, h => absurd h (by (first | lia | omega))
theorem fr_3_3 : ∀ k : Nat, k < 14 → ∃ r : Int, w_levenshtein_distance.1 [.str ([40] ++ List.replicate 3 46 ++ [120]), .str ([91] ++ List.replicate 3 46 ++ [88]), .int ((k : Int) - 3)] = some (.int r) ∧ (if (k : Int) - 3 + 1 < r then (k : Int) - 3 + 1 else r) = (if (k : Int) - 3 + 1 < 3 then (k : Int) - 3 + 1 else 3)
  | 0, _ => ⟨-2, (by kernel_rfl : w_levenshtein_distance.1 [.str ([40] ++ List.replicate 3 46 ++ [120]), .str ([91] ++ List.replicate 3 46 ++ [88]), .int (-3)] = some (.int (-2))), by decide⟩
  | 1, _ => ⟨-1, (by kernel_rfl : w_levenshtein_distance.1 [.str ([40] ++ List.replicate 3 46 ++ [120]), .str ([91] ++ List.replicate 3 46 ++ [88]), .int (-2)] = some (.int (-1))), by decide⟩
  | 2, _ => ⟨0, (by kernel_rfl : w_levenshtein_distance.1 [.str ([40] ++ List.replicate 3 46 ++ [120]), .str ([91] ++ List.replicate 3 46 ++ [88]), .int (-1)] = some (.int (0))), by decide⟩
  | 3, _ => ⟨1, (by kernel_rfl : w_levenshtein_distance.1 [.str ([40] ++ List.replicate 3 46 ++ [120]), .str ([91] ++ List.replicate 3 46 ++ [88]), .int (0)] = some (.int (1))), by decide⟩
  | 4, _ => ⟨2, (by kernel_rfl : w_levenshtein_distance.1 [.str ([40] ++ List.replicate 3 46 ++ [120]), .str ([91] ++ List.replicate 3 46 ++ [88]), .int (1)] = some (.int (2))), by decide⟩
  | 5, _ => ⟨3, (by kernel_rfl : w_levenshtein_distance.1 [.str ([40] ++ List.replicate 3 46 ++ [120]), .str ([91] ++ List.replicate 3 46 ++ [88]), .int (2)] = some (.int (3))), by decide⟩
  | 6, _ => ⟨3, (by kernel_rfl : w_levenshtein_distance.1 [.str ([40] ++ List.replicate 3 46 ++ [120]), .str ([91] ++ List.replicate 3 46 ++ [88]), .int (3)] = some (.int (3))), by decide⟩
  | 7, _ => ⟨3, (by kernel_rfl : w_levenshtein_distance.1 [.str ([40] ++ List.replicate 3 46 ++ [120]), .str ([91] ++ List.replicate 3 46 ++ [88]), .int (4)] = some (.int (3))), by decide⟩
  | 8, _ => ⟨3, (by kernel_rfl : w_levenshtein_distance.1 [.str ([40] ++ List.replicate 3 46 ++ [120]), .str ([91] ++ List.replicate 3 46 ++ [88]), .int (5)] = some (.int (3))), by decide⟩
  | 9, _ => ⟨3, (by kernel_rfl : w_levenshtein_distance.1 [.str ([40] ++ List.replicate 3 46 ++ [120]), .str ([91] ++ List.replicate 3 46 ++ [88]), .int (6)] = some (.int (3))), by decide⟩
  | 10, _ => ⟨3, (by kernel_rfl : w_levenshtein_distance.1 [.str ([40] ++ List.replicate 3 46 ++ [120]), .str ([91] ++ List.replicate 3 46 ++ [88]), .int (7)] = some (.int (3))), by decide⟩
  | 11, _ => ⟨3, (by kernel_rfl : w_levenshtein_distance.1 [.str ([40] ++ List.replicate 3 46 ++ [120]), .str ([91] ++ List.replicate 3 46 ++ [88]), .int (8)] = some (.int (3))), by decide⟩
  | 12, _ => ⟨3, (by kernel_rfl : w_levenshtein_distance.1 [.str ([40] ++ List.replicate 3 46 ++ [120]), .str ([91] ++ List.replicate 3 46 ++ [88]), .int (9)] = some (.int (3))), by decide⟩
  | 13, _ => ⟨3, (by kernel_rfl : w_levenshtein_distance.1 [.str ([40] ++ List.replicate 3 46 ++ [120]), .str ([91] ++ List.replicate 3 46 ++ [88]), .int (10)] = some (.int (3))), by decide⟩
  | k + 14, h => absurd h (by (first | lia | omega))
theorem fr_3_4 : ∀ k : Nat, k < 14 → ∃ r : Int, w_levenshtein_distance.1 [.str ([40] ++ List.replicate 3 46 ++ [120]), .str ([91] ++ List.replicate 4 46 ++ [88]), .int ((k : Int) - 3)] = some (.int r) ∧ (if (k : Int) - 3 + 1 < r then (k : Int) - 3 + 1 else r) = (if (k : Int) - 3 + 1 < 5 then (k : Int) - 3 + 1 else 5)
  | 0, _ => ⟨-2, (by kernel_rfl : w_levenshtein_distance.1 [.str ([40] ++ List.replicate 3 46 ++ [120]), .str ([91] ++ List.replicate 4 46 ++ [88]), .int (-3)] = some (.int (-2))), by decide⟩
  | 1, _ => ⟨-1, (by kernel_rfl : w_levenshtein_distance.1 [.str ([40] ++ List.replicate 3 46 ++ [120]), .str ([91] ++ List.replicate 4 46 ++ [88]), .int (-2)] = some (.int (-1))), by decide⟩
  | 2, _ => ⟨0, (by kernel_rfl : w_levenshtein_distance.1 [.str ([40] ++ List.replicate 3 46 ++ [120]), .str ([91] ++ List.replicate 4 46 ++ [88]), .int (-1)] = some (.int (0))), by decide⟩
  | 3, _ => ⟨1, (by kernel_rfl : w_levenshtein_distance.1 [.str ([40] ++ List.replicate 3 46 ++ [120]), .str ([91] ++ List.replicate 4 46 ++ [88]), .int (0)] = some (.int (1))), by decide⟩
  | 4, _ => ⟨2, (by kernel_rfl : w_levenshtein_distance.1 [.str ([40] ++ List.replicate 3 46 ++ [120]), .str ([91] ++ List.replicate 4 46 ++ [88]), .int (1)] = some (.int (2))), by decide⟩
  | 5, _ => ⟨3, (by kernel_rfl : w_levenshtein_distance.1 [.str ([40] ++ List.replicate 3 46 ++ [120]), .str ([91] ++ List.replicate 4 46 ++ [88]), .int (2)] = some (.int (3))), by decide⟩
  | 6, _ => ⟨4, (by kernel_rfl : w_levenshtein_distance.1 [.str ([40] ++ List.replicate 3 46 ++ [120]), .str ([91] ++ List.replicate 4 46 ++ [88]), .int (3)] = some (.int (4))), by decide⟩
  | 7, _ => ⟨5, (by kernel_rfl : w_levenshtein_distance.1 [.str ([40] ++ List.replicate 3 46 ++ [120]), .str ([91] ++ List.replicate 4 46 ++ [88]), .int (4)] = some (.int (5))), by decide⟩
  | 8, _ => ⟨5, (by kernel_rfl : w_levenshtein_distance.1 [.str ([40] ++ List.replicate 3 46 ++ [120]), .str ([91] ++ List.replicate 4 46 ++ [88]), .int (5)] = some (.int (5))), by decide⟩
  | 9, _ => ⟨5, (by kernel_rfl : w_levenshtein_distance.1 [.str ([40] ++ List.replicate 3 46 ++ [120]), .str ([91] ++ List.replicate 4 46 ++ [88]), .int (6)] = some (.int (5))), by decide⟩
  | 10, _ => ⟨5, (by kernel_rfl : w_levenshtein_distance.1 [.str ([40] ++ List.replicate 3 46 ++ [120]), .str ([91] ++ List.replicate 4 46 ++ [88]), .int (7)] = some (.int (5))), by decide⟩
  | 11, _ => ⟨5, (by kernel_rfl : w_levenshtein_distance.1 [.str ([40] ++ List.replicate 3 46 ++ [120]), .str ([91] ++ List.replicate 4 46 ++ [88]), .int (8)] = some (.int (5))), by decide⟩
  | 12, _ => ⟨5, (by kernel_rfl : w_levenshtein_distance.1 [.str ([40] ++ List.replicate 3 46 ++ [120]), .str ([91] ++ List.replicate 4 46 ++ [88]), .int (9)] = some (.int (5))), by decide⟩
  | 13, _ => ⟨5, (by kernel_rfl : w_levenshtein_distance.1 [.str ([40] ++ List.replicate 3 46 ++ [120]), .str ([91] ++ List.replicate 4 46 ++ [88]), .int (10)] = some (.int (5))), by decide⟩
  | k + 14, h => absurd h (by (first | lia | omega))
theorem fr_4_1 : ∀ k : Nat, k < 14 → ∃ r : Int, w_levenshtein_distance.1 [.str ([40] ++ List.replicate 4 46 ++ [120]), .str ([91] ++ List.replicate 1 46 ++ [88]), .int ((k : Int) - 3)] = some (.int r) ∧ (if (k : Int) - 3 + 1 < r then (k : Int) - 3 + 1 else r) = (if (k : Int) - 3 + 1 < 9 then (k : Int) - 3 + 1 else 9)
  | 0, _ => ⟨-2, (by kernel_rfl : w_levenshtein_distance.1 [.str ([40] ++ List.replicate 4 46 ++ [120]), .str ([91] ++ List.replicate 1 46 ++ [88]), .int (-3)] = some (.int (-2))), by decide⟩
  | 1, _ => ⟨-1, (by kernel_rfl : w_levenshtein_distance.1 [.str ([40] ++ List.replicate 4 46 ++ [120]), .str ([91] ++ List.replicate 1 46 ++ [88]), .int (-2)] = some (.int (-1))), by decide⟩
  | 2, _ => ⟨0, (by kernel_rfl : w_levenshtein_distance.1 [.str ([40] ++ List.replicate 4 46 ++ [120]), .str ([91] ++ List.replicate 1 46 ++ [88]), .int (-1)] = some (.int (0))), by decide⟩
  | 3, _ => ⟨1, (by kernel_rfl : w_levenshtein_distance.1 [.str ([40] ++ List.replicate 4 46 ++ [120]), .str ([91] ++ List.replicate 1 46 ++ [88]), .int (0)] = some (.int (1))), by decide⟩
  | 4, _ => ⟨2, (by kernel_rfl : w_levenshtein_distance.1 [.str ([40] ++ List.replicate 4 46 ++ [120]), .str ([91] ++ List.replicate 1 46 ++ [88]), .int (1)] = some (.int (2))), by decide⟩
  | 5, _ => ⟨3, (by kernel_rfl : w_levenshtein_distance.1 [.str ([40] ++ List.replicate 4 46 ++ [120]), .str ([91] ++ List.replicate 1 46 ++ [88]), .int (2)] = some (.int (3))), by decide⟩
  | 6, _ => ⟨4, (by kernel_rfl : w_levenshtein_distance.1 [.str ([40] ++ List.replicate 4 46 ++ [120]), .str ([91] ++ List.replicate 1 46 ++ [88]), .int (3)] = some (.int (4))), by decide⟩
  | 7, _ => ⟨5, (by kernel_rfl : w_levenshtein_distance.1 [.str ([40] ++ List.replicate 4 46 ++ [120]), .str ([91] ++ List.replicate 1 46 ++ [88]), .int (4)] = some (.int (5))), by decide⟩
  | 8, _ => ⟨6, (by kernel_rfl : w_levenshtein_distance.1 [.str ([40] ++ List.replicate 4 46 ++ [120]), .str ([91] ++ List.replicate 1 46 ++ [88]), .int (5)] = some (.int (6))), by decide⟩
  | 9, _ => ⟨7, (by kernel_rfl : w_levenshtein_distance.1 [.str ([40] ++ List.replicate 4 46 ++ [120]), .str ([91] ++ List.replicate 1 46 ++ [88]), .int (6)] = some (.int (7))), by decide⟩
  | 10, _ => ⟨8, (by kernel_rfl : w_levenshtein_distance.1 [.str ([40] ++ List.replicate 4 46 ++ [120]), .str ([91] ++ List.replicate 1 46 ++ [88]), .int (7)] = some (.int (8))), by decide⟩
  | 11, _ => ⟨9, (by kernel_rfl : w_levenshtein_distance.1 [.str ([40] ++ List.replicate 4 46 ++ [120]), .str ([91] ++ List.replicate 1 46 ++ [88]), .int (8)] = some (.int (9))), by decide⟩
  | 12, _ => ⟨9, (by kernel_rfl : w_levenshtein_distance.1 [.str ([40] ++ List.replicate 4 46 ++ [120]), .str ([91] ++ List.replicate 1 46 ++ [88]), .int (9)] = some (.int (9))), by decide⟩
  | 13, _ => ⟨9, (by kernel_rfl : w_levenshtein_distance.1 [.str ([40] ++ List.replicate 4 46 ++ [120]), .str ([91] ++ List.replicate 1 46 ++ [88]), .int (10)] = some (.int (9))), by decide⟩
  | k + 14, h => absurd h (by (first | lia | omega))
theorem fr_4_2 : ∀ k : Nat, k < 14 → ∃ r : Int, w_levenshtein_distance.1 [.str ([40] ++ List.replicate 4 46 ++ [120]), .str ([91] ++ List.replicate 2 46 ++ [88]), .int ((k : Int) - 3)] = some (.int r) ∧ (if (k : Int) - 3 + 1 < r then (k : Int) - 3 + 1 else r) = (if (k : Int) - 3 + 1 < 7 then (k : Int) - 3 + 1 else 7)
  | 0, _ => ⟨-2, (by kernel_rfl : w_levenshtein_distance.1 [.str ([40] ++ List.replicate 4 46 ++ [120]), .str ([91] ++ List.replicate 2 46 ++ [88]), .int (-3)] = some (.int (-2))), by decide⟩
  | 1, _ => ⟨-1, (by kernel_rfl : w_levenshtein_distance.1 [.str ([40] ++ List.replicate 4 46 ++ [120]), .str ([91] ++ List.replicate 2 46 ++ [88]), .int (-2)] = some (.int (-1))), by decide⟩
  | 2, _ => ⟨0, (by kernel_rfl : w_levenshtein_distance.1 [.str ([40] ++ List.replicate 4 46 ++ [120]), .str ([91] ++ List.replicate 2 46 ++ [88]), .int (-1)] = some (.int (0))), by decide⟩
  | 3, _ => ⟨1, (by kernel_rfl : w_levenshtein_distance.1 [.str ([40] ++ List.replicate 4 46 ++ [120]), .str ([91] ++ List.replicate 2 46 ++ [88]), .int (0)] = some (.int (1))), by decide⟩
  | 4, _ => ⟨2, (by kernel_rfl : w_levenshtein_distance.1 [.str ([40] ++ List.replicate 4 46 ++ [120]), .str ([91] ++ List.replicate 2 46 ++ [88]), .int (1)] = some (.int (2))), by decide⟩
  | 5, _ => ⟨3, (by kernel_rfl : w_levenshtein_distance.1 [.str ([40] ++ List.replicate 4 46 ++ [120]), .str ([91] ++ List.replicate 2 46 ++ [88]), .int (2)] = some (.int (3))), by decide⟩
  | 6, _ => ⟨4, (by kernel_rfl : w_levenshtein_distance.1 [.str ([40] ++ List.replicate 4 46 ++ [120]), .str ([91] ++ List.replicate 2 46 ++ [88]), .int (3)] = some (.int (4))), by decide⟩
  | 7, _ => ⟨5, (by kernel_rfl : w_levenshtein_distance.1 [.str ([40] ++ List.replicate 4 46 ++ [120]), .str ([91] ++ List.replicate 2 46 ++ [88]), .int (4)] = some (.int (5))), by decide⟩
  | 8, _ => ⟨6, (by kernel_rfl : w_levenshtein_distance.1 [.str ([40] ++ List.replicate 4 46 ++ [120]), .str ([91] ++ List.replicate 2 46 ++ [88]), .int (5)] = some (.int (6))), by decide⟩
  | 9, _ => ⟨7, (by kernel_rfl : w_levenshtein_distance.1 [.str ([40] ++ List.replicate 4 46 ++ [120]), .str ([91] ++ List.replicate 2 46 ++ [88]), .int (6)] = some (.int (7))), by decide⟩
  | 10, _ => ⟨7, (by kernel_rfl : w_levenshtein_distance.1 [.str ([40] ++ List.replicate 4 46 ++ [120]), .str ([91] ++ List.replicate 2 46 ++ [88]), .int (7)] = some (.int (7))), by decide⟩
  | 11, _ => ⟨7, (by kernel_rfl : w_levenshtein_distance.1 [.str ([40] ++ List.replicate 4 46 ++ [120]), .str ([91] ++ List.replicate 2 46 ++ [88]), .int (8)] = some (.int (7))), by decide⟩
  | 12, _ => ⟨7, (by kernel_rfl : w_levenshtein_distance.1 [.str ([40] ++ List.replicate 4 46 ++ [120]), .str ([91] ++ List.replicate 2 46 ++ [88]), .int (9)] = some (.int (7))), by decide⟩
  | 13, _ => ⟨7, (by kernel_rfl : w_levenshtein_distance.1 [.str ([40] ++ List.replicate 4 46 ++ [120]), .str ([91] ++ List.replicate 2 46 ++ [88]), .int (10)] = some (.int (7))), by decide⟩
  | k + 14, h => absurd h (by (first | lia | omega))
theorem fr_4_3 : ∀ k : Nat, k < 14 → ∃ r : Int, w_levenshtein_distance.1 [.str ([40] ++ List.replicate 4 46 ++ [120]), .str ([91] ++ List.replicate 3 46 ++ [88]), .int ((k : Int) - 3)] = some (.int r) ∧ (if (k : Int) - 3 + 1 < r then (k : Int) - 3 + 1 else r) = (if (k : Int) - 3 + 1 < 5 then (k : Int) - 3 + 1 else 5)
  | 0, _ => ⟨-2, (by kernel_rfl : w_levenshtein_distance.1 [.str ([40] ++ List.replicate 4 46 ++ [120]), .str ([91] ++ List.replicate 3 46 ++ [88]), .int (-3)] = some (.int (-2))), by decide⟩
  | 1, _ => ⟨-1, (by kernel_rfl : w_levenshtein_distance.1 [.str ([40] ++ List.replicate 4 46 ++ [120]), .str ([91] ++ List.replicate 3 46 ++ [88]), .int (-2)] = some (.int (-1))), by decide⟩
  | 2, _ => ⟨0, (by kernel_rfl : w_levenshtein_distance.1 [.str ([40] ++ List.replicate 4 46 ++ [120]), .str ([91] ++ List.replicate 3 46 ++ [88]), .int (-1)] = some (.int (0))), by decide⟩
  | 3, _ => ⟨1, (by kernel_rfl : w_levenshtein_distance.1 [.str ([40] ++ List.replicate 4 46 ++ [120]), .str ([91] ++ List.replicate 3 46 ++ [88]), .int (0)] = some (.int (1))), by decide⟩
  | 4, _ => ⟨2, (by kernel_rfl : w_levenshtein_distance.1 [.str ([40] ++ List.replicate 4 46 ++ [120]), .str ([91] ++ List.replicate 3 46 ++ [88]), .int (1)] = some (.int (2))), by decide⟩
  | 5, _ => ⟨3, (by kernel_rfl : w_levenshtein_distance.1 [.str ([40] ++ List.replicate 4 46 ++ [120]), .str ([91] ++ List.replicate 3 46 ++ [88]), .int (2)] = some (.int (3))), by decide⟩
  | 6, _ => ⟨4, (by kernel_rfl : w_levenshtein_distance.1 [.str ([40] ++ List.replicate 4 46 ++ [120]), .str ([91] ++ List.replicate 3 46 ++ [88]), .int (3)] = some (.int (4))), by decide⟩
  | 7, _ => ⟨5, (by kernel_rfl : w_levenshtein_distance.1 [.str ([40] ++ List.replicate 4 46 ++ [120]), .str ([91] ++ List.replicate 3 46 ++ [88]), .int (4)] = some (.int (5))), by decide⟩
  | 8, _ => ⟨5, (by kernel_rfl : w_levenshtein_distance.1 [.str ([40] ++ List.replicate 4 46 ++ [120]), .str ([91] ++ List.replicate 3 46 ++ [88]), .int (5)] = some (.int (5))), by decide⟩
  | 9, _ => ⟨5, (by kernel_rfl : w_levenshtein_distance.1 [.str ([40] ++ List.replicate 4 46 ++ [120]), .str ([91] ++ List.replicate 3 46 ++ [88]), .int (6)] = some (.int (5))), by decide⟩
  | 10, _ => ⟨5, (by kernel_rfl : w_levenshtein_distance.1 [.str ([40] ++ List.replicate 4 46 ++ [120]), .str ([91] ++ List.replicate 3 46 ++ [88]), .int (7)] = some (.int (5))), by decide⟩
  | 11, _ => ⟨5, (by kernel_rfl : w_levenshtein_distance.1 [.str ([40] ++ List.replicate 4 46 ++ [120]), .str ([91] ++ List.replicate 3 46 ++ [88]), .int (8)] = some (.int (5))), by decide⟩
  | 12, _ => ⟨5, (by kernel_rfl : w_levenshtein_distance.1 [.str ([40] ++ List.replicate 4 46 ++ [120]), .str ([91] ++ List.replicate 3 46 ++ [88]), .int (9)] = some (.int (5))), by decide⟩
  | 13, _ => ⟨5, (by kernel_rfl : w_levenshtein_distance.1 [.str ([40] ++ List.replicate 4 46 ++ [120]), .str ([91] ++ List.replicate 3 46 ++ [88]), .int (10)] = some (.int (5))), by decide⟩
  | k + 14, h => absurd h (by (first | lia | omega))
theorem fr_4_4 : ∀ k : Nat, k < 14 → ∃ r : Int, w_levenshtein_distance.1 [.str ([40] ++ List.replicate 4 46 ++ [120]), .str ([91] ++ List.replicate 4 46 ++ [88]), .int ((k : Int) - 3)] = some (.int r) ∧ (if (k : Int) - 3 + 1 < r then (k : Int) - 3 + 1 else r) = (if (k : Int) - 3 + 1 < 3 then (k : Int) - 3 + 1 else 3)
  | 0, _ => ⟨-2, (by kernel_rfl : w_levenshtein_distance.1 [.str ([40] ++ List.replicate 4 46 ++ [120]), .str ([91] ++ List.replicate 4 46 ++ [88]), .int (-3)] = some (.int (-2))), by decide⟩
  | 1, _ => ⟨-1, (by kernel_rfl : w_levenshtein_distance.1 [.str ([40] ++ List.replicate 4 46 ++ [120]), .str ([91] ++ List.replicate 4 46 ++ [88]), .int (-2)] = some (.int (-1))), by decide⟩
  | 2, _ => ⟨0, (by kernel_rfl : w_levenshtein_distance.1 [.str ([40] ++ List.replicate 4 46 ++ [120]), .str ([91] ++ List.replicate 4 46 ++ [88]), .int (-1)] = some (.int (0))), by decide⟩
  | 3, _ => ⟨1, (by kernel_rfl : w_levenshtein_distance.1 [.str ([40] ++ List.replicate 4 46 ++ [120]), .str ([91] ++ List.replicate 4 46 ++ [88]), .int (0)] = some (.int (1))), by decide⟩
  | 4, _ => ⟨2, (by kernel_rfl : w_levenshtein_distance.1 [.str ([40] ++ List.replicate 4 46 ++ [120]), .str ([91] ++ List.replicate 4 46 ++ [88]), .int (1)] = some (.int (2))), by decide⟩
  | 5, _ => ⟨3, (by kernel_rfl : w_levenshtein_distance.1 [.str ([40] ++ List.replicate 4 46 ++ [120]), .str ([91] ++ List.replicate 4 46 ++ [88]), .int (2)] = some (.int (3))), by decide⟩
  | 6, _ => ⟨3, (by kernel_rfl : w_levenshtein_distance.1 [.str ([40] ++ List.replicate 4 46 ++ [120]), .str ([91] ++ List.replicate 4 46 ++ [88]), .int (3)] = some (.int (3))), by decide⟩
  | 7, _ => ⟨3, (by kernel_rfl : w_levenshtein_distance.1 [.str ([40] ++ List.replicate 4 46 ++ [120]), .str ([91] ++ List.replicate 4 46 ++ [88]), .int (4)] = some (.int (3))), by decide⟩
  | 8, _ => ⟨3, (by kernel_rfl : w_levenshtein_distance.1 [.str ([40] ++ List.replicate 4 46 ++ [120]), .str ([91] ++ List.replicate 4 46 ++ [88]), .int (5)] = some (.int (3))), by decide⟩
  | 9, _ => ⟨3, (by kernel_rfl : w_levenshtein_distance.1 [.str ([40] ++ List.replicate 4 46 ++ [120]), .str ([91] ++ List.replicate 4 46 ++ [88]), .int (6)] = some (.int (3))), by decide⟩
  | 10, _ => ⟨3, (by kernel_rfl : w_levenshtein_distance.1 [.str ([40] ++ List.replicate 4 46 ++ [120]), .str ([91] ++ List.replicate 4 46 ++ [88]), .int (7)] = some (.int (3))), by decide⟩
  | 11, _ => ⟨3, (by kernel_rfl : w_levenshtein_distance.1 [.str ([40] ++ List.replicate 4 46 ++ [120]), .str ([91] ++ List.replicate 4 46 ++ [88]), .int (8)] = some (.int (3))), by decide⟩
  | 12, _ => ⟨3, (by kernel_rfl : w_levenshtein_distance.1 [.str ([40] ++ List.replicate 4 46 ++ [120]), .str ([91] ++ List.replicate 4 46 ++ [88]), .int (9)] = some (.int (3))), by decide⟩
  | 13, _ => ⟨3, (by kernel_rfl : w_levenshtein_distance.1 [.str ([40] ++ List.replicate 4 46 ++ [120]), .str ([91] ++ List.replicate 4 46 ++ [88]), .int (10)] = some (.int (3))), by decide⟩
  | k + 14, h => absurd h (by (first | lia | omega))
/-- a drawn row between two other signs -/
theorem framed_ok {n m : Nat} (hn : 1 ≤ n ∧ n ≤ 4) (hm : 1 ≤ m ∧ m ≤ 4) {k : Nat} (hk : k < 14) : ∃ r : Int, w_levenshtein_distance.1 [.str ([40] ++ List.replicate n 46 ++ [120]), .str ([91] ++ List.replicate m 46 ++ [88]), .int ((k : Int) - 3)] = some (.int r) ∧
    (if (k : Int) - 3 + 1 < r then (k : Int) - 3 + 1 else r) = (if (k : Int) - 3 + 1 < 3 + 2 * (dist n m : Int) then (k : Int) - 3 + 1 else 3 + 2 * (dist n m : Int)) :=
  match n, m, hn, hm with
  | 1, 1, _, _ => fr_1_1 k hk
  | 1, 2, _, _ => fr_1_2 k hk
  | 1, 3, _, _ => fr_1_3 k hk
  | 1, 4, _, _ => fr_1_4 k hk
  | 2, 1, _, _ => fr_2_1 k hk
  | 2, 2, _, _ => fr_2_2 k hk
  | 2, 3, _, _ => fr_2_3 k hk
  | 2, 4, _, _ => fr_2_4 k hk
  | 3, 1, _, _ => fr_3_1 k hk
  | 3, 2, _, _ => fr_3_2 k hk
  | 3, 3, _, _ => fr_3_3 k hk
  | 3, 4, _, _ => fr_3_4 k hk
  | 4, 1, _, _ => fr_4_1 k hk
  | 4, 2, _, _ => fr_4_2 k hk
  | 4, 3, _, _ => fr_4_3 k hk
  | 4, 4, _, _ => fr_4_4 k hk
  | 0, _, h, _ => absurd h.1 (by (first | lia | omega))
  | _, 0, _, h => absurd h.1 (by (first | lia | omega))
  | n + 5, _, h, _ => absurd h.2 (by (first | lia | omega))
  | _, m + 5, _, h => absurd h.2 (by (first | lia | omega))
end Mine
/-! part 53 -/
namespace Mine
open PySem PySem.Calls PyProof.Rows
/-- the number with these figures, the least first -/
noncomputable def poly (w : Nat) : List Nat → Nat
  | [] => 0
  | d :: r => d + 2 ^ w * poly w r
theorem poly_append (w : Nat) : ∀ a b : List Nat, poly w (a ++ b) = poly w a + 2 ^ (w * a.length) * poly w b
  | [], b => by simp [poly]
  | d :: a, b => by
    rw [List.cons_append, poly, poly, poly_append w a b, List.length_cons, Nat.mul_succ, Nat.pow_add, Nat.mul_add, Nat.add_assoc]
    congr 2
    rw [← Nat.mul_assoc, Nat.mul_comm (2 ^ w)]
theorem poly_lt (w : Nat) : ∀ l : List Nat, (∀ d ∈ l, d < 2 ^ w) → poly w l < 2 ^ (w * l.length)
  | [], _ => by simp [poly]
  | d :: l, h => by
    have h1 := h d (.head _)
    have h2 := poly_lt w l fun x hx => h x (.tail _ hx)
    rw [poly, List.length_cons, Nat.mul_succ, Nat.pow_add, Nat.mul_comm (2 ^ (w * l.length))]
    calc d + 2 ^ w * poly w l < 2 ^ w + 2 ^ w * poly w l := by (first | lia | omega)
      _ = 2 ^ w * (poly w l + 1) := by rw [Nat.mul_succ]; (first | lia | omega)
      _ ≤ 2 ^ w * 2 ^ (w * l.length) := Nat.mul_le_mul_left _ h2
noncomputable def seg {α : Type} (l : List α) (L R : Nat) : List α := (l.drop L).take (R - L)
theorem seg_cut {α : Type} (l : List α) {L M R : Nat} (h1 : L ≤ M) (h2 : M ≤ R) : seg l L R = seg l L M ++ seg l M R := by
  unfold seg
  rw [show R - L = (M - L) + (R - M) by (first | lia | omega), List.take_add, List.drop_drop, show L + (M - L) = M by (first | lia | omega)]
theorem seg_len {α : Type} (l : List α) {L R : Nat} (h : R ≤ l.length) : (seg l L R).length = R - L := by
  unfold seg; simp; (first | lia | omega)
theorem seg_one {α : Type} (l : List α) {L : Nat} {x : α} (h : l[L]? = some x) : seg l L (L + 1) = [x] := by
  unfold seg
  obtain ⟨hl, e⟩ := List.getElem?_eq_some_iff.mp h
  rw [Nat.add_sub_cancel_left, List.drop_eq_getElem_cons hl, e]; rfl
theorem seg_mem {α : Type} {l : List α} {L R : Nat} {x : α} (h : x ∈ seg l L R) : x ∈ l := List.mem_of_mem_drop (List.mem_of_mem_take h)
theorem small_nat {n k : Nat} (h : n < 2 ^ k) (hk : k ≤ 1000) : small (n : Int) = true := by
  unfold small
  rw [decide_eq_true_eq, Int.natAbs_natCast]
  exact Nat.lt_of_lt_of_le h (Nat.pow_le_pow_right (by decide) hk)
theorem small_le {n : Nat} (h : n ≤ 1000000) : small (n : Int) = true := small_nat (k := 20) (by (first | lia | omega)) (by decide)
theorem add_J (a b : Nat) : addV (J a) (J b) = some (J (a + b)) := rfl
theorem mul_J {a b : Nat} (h1 : small (a : Int) = true) (h2 : small (b : Int) = true) : mulV (J a) (J b) = some (J (a * b)) := by
  show (if small (a : Int) = true ∧ small (b : Int) = true then some (V.int ((a : Int) * (b : Int))) else none) = _
  rw [if_pos ⟨h1, h2⟩]
  rfl
theorem shl_J {a b : Nat} (h1 : small (a : Int) = true) (h2 : b ≤ 1000) : int2 (fun a b => if 0 ≤ b ∧ b ≤ 1000 ∧ small a = true then some (.int (a * 2 ^ b.toNat)) else none) (J a) (J b) = some (J (a * 2 ^ b)) := by
  show (if (0 : Int) ≤ (b : Int) ∧ (b : Int) ≤ 1000 ∧ small (a : Int) = true then some (V.int ((a : Int) * 2 ^ ((b : Int)).toNat)) else none) = _
  rw [if_pos ⟨by (first | lia | omega), by (first | lia | omega), h1⟩, Int.toNat_natCast]
  show _ = some (V.int (((a * 2 ^ b : Nat)) : Int))
  rw [Int.natCast_mul, Int.natCast_pow]; rfl
theorem shr_J (a b : Nat) : int2 (fun a b => if 0 ≤ b then some (.int (a.fdiv (2 ^ b.toNat))) else none) (J a) (J b) = some (J (a / 2 ^ b)) := by
  show (if (0 : Int) ≤ (b : Int) then some (V.int ((a : Int).fdiv (2 ^ ((b : Int)).toNat))) else none) = _
  rw [if_pos (by (first | lia | omega)), Int.toNat_natCast]
  show _ = some (V.int (((a / 2 ^ b : Nat)) : Int))
  rw [Int.natCast_ediv, Int.natCast_pow, Int.fdiv_eq_ediv_of_nonneg _ (Int.pow_nonneg (by decide))]; rfl
theorem sub_J {a b : Nat} (h : b ≤ a) : int2 (fun a b => some (.int (a - b))) (J a) (J b) = some (J (a - b)) := by
  show some (V.int ((a : Int) - (b : Int))) = some (V.int (((a - b : Nat)) : Int))
  rw [Int.natCast_sub h]
theorem eq_J (a b : Nat) : eqV (J a) (J b) = some (.bool (a == b)) := by
  show some (V.bool ((a : Int) == (b : Int))) = _
  congr 2
  rw [Bool.eq_iff_iff]; simp only [beq_iff_eq]; (first | lia | omega)
theorem xif_of {t : Et} {f g : S} {Γ : Cx} {σ : AH} {b : Bool} (h : t Γ σ = some b) : xif t f g Γ σ = if b then f Γ σ else g Γ σ := by
  unfold xif; rw [h]; rfl
theorem xseq_ret {f g : S} {Γ Γ' : Cx} {σ σ' : AH} {v : V} (h : f Γ σ = some (.ret v, Γ', σ')) : xseq f g Γ σ = some (.ret v, Γ', σ') := by
  unfold xseq; rw [h]; rfl
theorem ret_of {f : E} {Γ : Cx} {σ : AH} {v : V} {k : S} (h : f Γ σ = some v) : xseq (xret f) k Γ σ = some (.ret v, Γ, σ) := by
  unfold xseq xret; rw [h]; rfl
theorem xif_true {t : Et} {f g : S} {Γ : Cx} {σ : AH} (h : t Γ σ = some true) : xif t f g Γ σ = f Γ σ := by
  unfold xif; rw [h]; rfl
theorem xif_false {t : Et} {f g : S} {Γ : Cx} {σ : AH} (h : t Γ σ = some false) : xif t f g Γ σ = g Γ σ := by
  unfold xif; rw [h]; rfl
theorem item_J {l : List Nat} {i x : Nat} (hi : i ≤ 1000000) (h : l[i]? = some x) : itemV (N l) (J i) = some (J x) := by
  rw [itemV, pix_nat _ _ hi, List.getElem?_map, h]; rfl
/-! one turn of inner -/
theorem gd_leaf {ds : List Nat} {w L x : Nat} (hL : L ≤ 1000000) (h : ds[L]? = some x) : g_d.1 (dG (ds.map J) (w : Int) [J L, J (L + 1)]) [] = some (.ret (J x), dG (ds.map J) (w : Int) [J L, J (L + 1)], []) := by
  unfold g_d
  dsimp only
  have e1 : (fun Γ σ => (p2 eqV (p2 addV (pv 0) (pk (V.int 1))) (pv 1) Γ σ).bind truth : Et) (dG (ds.map J) (w : Int) [J L, J (L + 1)]) [] = some true := by
    show Option.bind (p2 eqV _ _ _ _) truth = _
    rw [p2_of (a := J (L + 1)) (b := J (L + 1)) ((p2_of (a := J L) (b := J 1) rfl rfl).trans (add_J L 1)) rfl, eq_J]
    simp [truth]
  have e2 : p2 itemV (pv 4) (pv 0) (dG (ds.map J) (w : Int) [J L, J (L + 1)]) [] = some (J x) := (p2_of (a := N ds) (b := J L) rfl rfl).trans (item_J hL h)
  exact xseq_ret ((xif_true e1).trans (ret_of e2))
theorem gd_node {ds : List Nat} {w L R : Nat} (h : L + 1 < R) (hR : R ≤ 1000000) (hw : w ≤ 1000000) : g_d.1 (dG (ds.map J) (w : Int) [J L, J R]) [] =
    some (.next, [.val (J L), .val (J R), .val (J ((L + R) / 2)), .val (J (((L + R) / 2 - L) * w)), .val (N ds), .undef, .val (J w)], []) := by
  unfold g_d
  dsimp only
  have e1 : (fun Γ σ => (p2 eqV (p2 addV (pv 0) (pk (V.int 1))) (pv 1) Γ σ).bind truth : Et) (dG (ds.map J) (w : Int) [J L, J R]) [] = some false := by
    show Option.bind (p2 eqV _ _ _ _) truth = _
    rw [p2_of (a := J (L + 1)) (b := J R) ((p2_of (a := J L) (b := J 1) rfl rfl).trans (add_J L 1)) rfl, eq_J]
    simp [truth]; (first | lia | omega)
  have e2 : xif (fun Γ σ => (p2 eqV (p2 addV (pv 0) (pk (V.int 1))) (pv 1) Γ σ).bind truth : Et) (xseq (xret (p2 itemV (pv 4) (pv 0))) xnext) xnext (dG (ds.map J) (w : Int) [J L, J R]) [] = some (.next, [.val (J L), .val (J R), .undef, .undef, .val (N ds), .undef, .val (J w)], []) := by
    rw [xif_false e1]; rfl
  rw [xseq_of e2]
  have e3 : (p2 (int2 fun a b => if 0 ≤ b then some (V.int (a.fdiv (2 ^ b.toNat))) else none) (p2 addV (pv 0) (pv 1)) (pk (V.int 1))) ([.val (J L), .val (J R), .undef, .undef, .val (N ds), .undef, .val (J w)] : Cx) ([] : AH) = some (J ((L + R) / 2)) :=
    (p2_of (a := J (L + R)) (b := J 1) ((p2_of (a := J L) (b := J R) rfl rfl).trans (add_J L R)) rfl).trans (shr_J (L + R) 1)
  rw [xseq_of (xset_of e3)]
  have e4 : (p2 mulV (p2 (int2 fun a b => some (V.int (a - b))) (pv 2) (pv 0)) (pv 6)) ([.val (J L), .val (J R), .val (J ((L + R) / 2)), .undef, .val (N ds), .undef, .val (J w)] : Cx) ([] : AH) = some (J (((L + R) / 2 - L) * w)) :=
    (p2_of (a := J ((L + R) / 2 - L)) (b := J w) ((p2_of (a := J ((L + R) / 2)) (b := J L) rfl rfl).trans (sub_J (by (first | lia | omega)))) rfl).trans (mul_J (small_le (by (first | lia | omega))) (small_le (by (first | lia | omega))))
  rw [show ([.val (J L), .val (J R), .undef, .undef, .val (N ds), .undef, .val (J w)] : Cx).set 2 (.val (J ((L + R) / 2))) = [.val (J L), .val (J R), .val (J ((L + R) / 2)), .undef, .val (N ds), .undef, .val (J w)] from rfl]
  rw [xseq_of (xset_of e4)]
  rfl
theorem inD_poly {ds : List Nat} {w : Nat} (hd : ∀ d ∈ ds, d < 2 ^ w) (hw : w * ds.length ≤ 900) (hl : ds.length ≤ 1000) (hw1 : w ≤ 900) : ∀ (k L R : Nat), L < R → R ≤ ds.length → R - L ≤ 2 ^ k → inD (ds.map J) (w : Int) (k + 1) [J L, J R] = some (J (poly w (seg ds L R)))
  | k, L, R, h1, h2, h3 => by
    rw [inD, if_pos (show [J L, J R].length = 2 from rfl)]
    by_cases hleaf : R = L + 1
    · subst hleaf
      obtain ⟨x, hx⟩ : ∃ x, ds[L]? = some x := ⟨ds[L], List.getElem?_eq_getElem (by (first | lia | omega))⟩
      rw [gd_leaf (by (first | lia | omega)) hx, seg_one ds hx]
      show some (J x) = some (J (x + 2 ^ w * 0))
      rw [Nat.mul_zero, Nat.add_zero]
    · match k, h3 with
      | 0, h3 => exact absurd h3 (by simp; (first | lia | omega))
      | k + 1, h3 =>
        have hk : 2 ^ (k + 1) = 2 * 2 ^ k := by rw [Nat.pow_succ]; (first | lia | omega)
        rw [gd_node (by (first | lia | omega)) (by (first | lia | omega)) (by (first | lia | omega))]
        generalize hM : (L + R) / 2 = M at *
        have i1 := inD_poly hd hw hl hw1 k M R (by (first | lia | omega)) h2 (by (first | lia | omega))
        have i2 := inD_poly hd hw hl hw1 k L M (by (first | lia | omega)) (by (first | lia | omega)) (by (first | lia | omega))
        have a1 : a2 2 1 ([.val (J L), .val (J R), .val (J M), .val (J ((M - L) * w)), .val (N ds), .undef, .val (J w)] : Cx) ([] : AH) = some [J M, J R] := rfl
        have a3' : a2 0 2 ([.val (J L), .val (J R), .val (J M), .val (J ((M - L) * w)), .val (N ds), .undef, .val (J w)] : Cx) ([] : AH) = some [J L, J M] := rfl
        have a4 : pv 3 ([.val (J L), .val (J R), .val (J M), .val (J ((M - L) * w)), .val (N ds), .undef, .val (J w)] : Cx) ([] : AH) = some (J ((M - L) * w)) := rfl
        have hsm : poly w (seg ds M R) < 2 ^ 900 := by
          refine Nat.lt_of_lt_of_le (poly_lt w _ fun d hx => hd d (seg_mem hx)) (Nat.pow_le_pow_right (by decide) ?_)
          rw [seg_len ds h2]
          exact Nat.le_trans (Nat.mul_le_mul_left _ (by (first | lia | omega))) hw
        have hsh : (M - L) * w ≤ 1000 := by
          rw [Nat.mul_comm]
          exact Nat.le_trans (Nat.mul_le_mul_left _ (show M - L ≤ ds.length by (first | lia | omega))) (by (first | lia | omega))
        rw [Option.bind_some]
        dsimp only
        rw [a1, Option.bind_some, i1, Option.bind_some, a4, Option.bind_some, show shlV (J (poly w (seg ds M R))) (J ((M - L) * w)) = _ from shl_J (small_nat hsm (by decide)) hsh, Option.bind_some, a3', Option.bind_some, i2, Option.bind_some, add_J, seg_cut ds (show L ≤ M by (first | lia | omega)) (show M ≤ R by (first | lia | omega)), poly_append, seg_len ds (show M ≤ ds.length by (first | lia | omega))]
        congr 2
        rw [Nat.add_comm, Nat.mul_comm, Nat.mul_comm (M - L)]
theorem d2i_of {ds : List Nat} {w : Nat} (hd : ∀ d ∈ ds, d < 2 ^ w) (hw : w * ds.length ≤ 900) (hl : ds.length ≤ 128) (hw1 : w ≤ 900) : pfn xs_D 2 fD [N ds, J w] = some (J (poly w ds)) := by
  rw [pfn_run (np := 2) (xs := xs_D) (ps := [N ds, J w]) [.val (N ds), .val (J w), .undef] rfl rfl]
  show Option.bind (Option.map _ (if (ds.map J).isEmpty = true then some (V.int 0) else inD (ds.map J) (w : Int) 8 [.int 0, .int ((ds.map J).length : Nat)])) retV = _
  cases ds with
  | nil => rfl
  | cons d ds =>
    rw [if_neg (by simp)]
    have := inD_poly hd hw (by (first | lia | omega)) hw1 7 0 (d :: ds).length (by simp) (Nat.le_refl _) (by (first | lia | omega))
    have e0 : seg (d :: ds) 0 (d :: ds).length = d :: ds := by unfold seg; simp
    rw [e0] at this
    rw [List.length_map]
    show Option.bind (Option.map _ (inD ((d :: ds).map J) (w : Int) (7 + 1) [J 0, J (d :: ds).length])) retV = _
    rw [this]
    rfl
end Mine
/-! part 54 -/
namespace Mine
open PySem PySem.Calls PyProof.Rows
/-- the k lowest figures -/
noncomputable def digs (w : Nat) : Nat → Nat → List Nat
  | 0, _ => []
  | k + 1, x => x % 2 ^ w :: digs w k (x / 2 ^ w)
theorem digs_len (w : Nat) : ∀ k x, (digs w k x).length = k
  | 0, _ => rfl
  | k + 1, x => by rw [digs, List.length_cons, digs_len w k]
theorem digs_add (w : Nat) : ∀ m n x, digs w (m + n) x = digs w m (x % 2 ^ (w * m)) ++ digs w n (x / 2 ^ (w * m))
  | 0, n, x => by simp [digs]
  | m + 1, n, x => by
    have e1 : 2 ^ (w * (m + 1)) = 2 ^ w * 2 ^ (w * m) := by rw [Nat.mul_succ, Nat.pow_add, Nat.mul_comm]
    rw [show m + 1 + n = (m + n) + 1 by (first | lia | omega), digs, digs, digs_add w m n, e1, List.cons_append, Nat.mod_mul_right_mod, Nat.mod_mul_right_div_self, Nat.div_div_eq_div_mul]
theorem digs_poly (w : Nat) : ∀ k x, x < 2 ^ (w * k) → poly w (digs w k x) = x
  | 0, x, h => by simp at h; subst h; rfl
  | k + 1, x, h => by
    have e1 : 2 ^ (w * (k + 1)) = 2 ^ w * 2 ^ (w * k) := by rw [Nat.mul_succ, Nat.pow_add, Nat.mul_comm]
    rw [digs, poly, digs_poly w k _ (Nat.div_lt_of_lt_mul (by rw [← e1]; exact h))]
    exact Nat.mod_add_div x (2 ^ w)
theorem digs_lt (w : Nat) : ∀ k x d, d ∈ digs w k x → d < 2 ^ w
  | 0, _, d, h => by cases h
  | k + 1, x, d, h => by
    rw [digs] at h
    rcases List.mem_cons.mp h with rfl | h
    · exact Nat.mod_lt _ (Nat.two_pow_pos w)
    · exact digs_lt w k _ d h
theorem xor_low (x s : Nat) : Builtin.bitXor (x : Int) (((x / 2 ^ s) * 2 ^ s : Nat) : Int) = ((x % 2 ^ s : Nat) : Int) := by
  rw [bitXor_and]
  have h1 : Builtin.bitAnd (x : Int) (((x / 2 ^ s) * 2 ^ s : Nat) : Int) = ((x &&& ((x / 2 ^ s) * 2 ^ s) : Nat) : Int) := by
    rw [bitAnd_pp (by (first | lia | omega)) (by (first | lia | omega)), Int.toNat_natCast, Int.toNat_natCast]
  have h2 : x &&& ((x / 2 ^ s) * 2 ^ s) = (x / 2 ^ s) * 2 ^ s := by
    apply Nat.eq_of_testBit_eq
    intro i
    rw [Nat.testBit_and, Nat.mul_comm, Nat.testBit_two_pow_mul]
    by_cases h : s ≤ i
    · rw [Nat.testBit_div_two_pow]; simp [h]
    · simp [h]
  rw [h1, h2]
  have h3 := Nat.mod_add_div x (2 ^ s)
  rw [Nat.mul_comm] at h3
  (first | lia | omega)
/-! one turn of inner -/
theorem gi_leaf {w x L : Nat} {l : List V} (hL : L < l.length) : g_i.1 (iG (w : Int) [J x, J L, J (L + 1)]) [.list l] = some (.ret .none, iG (w : Int) [J x, J L, J (L + 1)], [.list (l.set L (J x))]) := by
  unfold g_i
  dsimp only
  have e1 : (fun Γ σ => (p2 eqV (p2 addV (pv 1) (pk (V.int 1))) (pv 2) Γ σ).bind truth : Et) (iG (w : Int) [J x, J L, J (L + 1)]) [.list l] = some true := by
    show Option.bind (p2 eqV _ _ _ _) truth = _
    rw [p2_of (a := J (L + 1)) (b := J (L + 1)) ((p2_of (a := J L) (b := J 1) rfl rfl).trans (add_J L 1)) rfl, eq_J]
    simp [truth]
  have e2 : xsetitem 7 (pv 0) (pv 1) (iG (w : Int) [J x, J L, J (L + 1)]) [.list l] = some (.next, iG (w : Int) [J x, J L, J (L + 1)], [.list (l.set L (J x))]) := by
    show (if (0 : Int) ≤ (L : Int) ∧ (L : Int) < (l.length : Int) then _ else _) = _
    rw [if_pos ⟨by (first | lia | omega), by (first | lia | omega)⟩]; rfl
  refine xseq_ret ((xif_true e1).trans ?_)
  rw [xseq_of e2]
  rfl
theorem gi_node {w x L R : Nat} {l : List V} (h : L + 1 < R) (hR : R ≤ 1000) (hw : w ≤ 1000) (hx : x < 2 ^ 900) (hs : ((L + R) / 2 - L) * w ≤ 1000) : g_i.1 (iG (w : Int) [J x, J L, J R]) [.list l] =
    some (.next, [.val (J x), .val (J L), .val (J R), .val (J ((L + R) / 2)), .val (J (((L + R) / 2 - L) * w)), .val (J (x / 2 ^ (((L + R) / 2 - L) * w))), .val (J (x % 2 ^ (((L + R) / 2 - L) * w))), .ref 0, .undef, .val (J w)], [.list l]) := by
  unfold g_i
  dsimp only
  have e1 : (fun Γ σ => (p2 eqV (p2 addV (pv 1) (pk (V.int 1))) (pv 2) Γ σ).bind truth : Et) (iG (w : Int) [J x, J L, J R]) [.list l] = some false := by
    show Option.bind (p2 eqV _ _ _ _) truth = _
    rw [p2_of (a := J (L + 1)) (b := J R) ((p2_of (a := J L) (b := J 1) rfl rfl).trans (add_J L 1)) rfl, eq_J]
    simp [truth]; (first | lia | omega)
  have e2 : xif (fun Γ σ => (p2 eqV (p2 addV (pv 1) (pk (V.int 1))) (pv 2) Γ σ).bind truth : Et) (xseq (xsetitem 7 (pv 0) (pv 1)) (xseq (fun Γ σ => some (Fl.ret V.none, Γ, σ)) xnext)) xnext (iG (w : Int) [J x, J L, J R]) [.list l] =
      some (.next, [.val (J x), .val (J L), .val (J R), .undef, .undef, .undef, .undef, .ref 0, .undef, .val (J w)], [.list l]) := by
    rw [xif_false e1]; rfl
  rw [xseq_of e2]
  have e3 : (p2 (int2 fun a b => if 0 ≤ b then some (V.int (a.fdiv (2 ^ b.toNat))) else none) (p2 addV (pv 1) (pv 2)) (pk (V.int 1))) ([.val (J x), .val (J L), .val (J R), .undef, .undef, .undef, .undef, .ref 0, .undef, .val (J w)] : Cx) ([.list l] : AH) = some (J ((L + R) / 2)) :=
    (p2_of (a := J (L + R)) (b := J 1) ((p2_of (a := J L) (b := J R) rfl rfl).trans (add_J L R)) rfl).trans (shr_J (L + R) 1)
  rw [xseq_of (xset_of e3)]
  have hM : L ≤ (L + R) / 2 ∧ (L + R) / 2 ≤ 1000 := by (first | lia | omega)
  generalize (L + R) / 2 = M at *
  rw [show ([.val (J x), .val (J L), .val (J R), .undef, .undef, .undef, .undef, .ref 0, .undef, .val (J w)] : Cx).set 3 (.val (J M)) = [.val (J x), .val (J L), .val (J R), .val (J M), .undef, .undef, .undef, .ref 0, .undef, .val (J w)] from rfl]
  · have e4 : (p2 mulV (p2 (int2 fun a b => some (V.int (a - b))) (pv 3) (pv 1)) (pv 9)) ([.val (J x), .val (J L), .val (J R), .val (J M), .undef, .undef, .undef, .ref 0, .undef, .val (J w)] : Cx) ([.list l] : AH) = some (J ((M - L) * w)) :=
      (p2_of (a := J (M - L)) (b := J w) ((p2_of (a := J M) (b := J L) rfl rfl).trans (sub_J hM.1)) rfl).trans (mul_J (small_le (by (first | lia | omega))) (small_le (by (first | lia | omega))))
    rw [xseq_of (xset_of e4)]
    generalize (M - L) * w = s at *
    rw [show ([.val (J x), .val (J L), .val (J R), .val (J M), .undef, .undef, .undef, .ref 0, .undef, .val (J w)] : Cx).set 4 (.val (J s)) = [.val (J x), .val (J L), .val (J R), .val (J M), .val (J s), .undef, .undef, .ref 0, .undef, .val (J w)] from rfl]
    have e5 : (p2 (int2 fun a b => if 0 ≤ b then some (V.int (a.fdiv (2 ^ b.toNat))) else none) (pv 0) (pv 4)) ([.val (J x), .val (J L), .val (J R), .val (J M), .val (J s), .undef, .undef, .ref 0, .undef, .val (J w)] : Cx) ([.list l] : AH) = some (J (x / 2 ^ s)) :=
      (p2_of (a := J x) (b := J s) rfl rfl).trans (shr_J x s)
    rw [xseq_of (xset_of e5)]
    rw [show ([.val (J x), .val (J L), .val (J R), .val (J M), .val (J s), .undef, .undef, .ref 0, .undef, .val (J w)] : Cx).set 5 (.val (J (x / 2 ^ s))) = [.val (J x), .val (J L), .val (J R), .val (J M), .val (J s), .val (J (x / 2 ^ s)), .undef, .ref 0, .undef, .val (J w)] from rfl]
    have e6 : (p2 (int2 fun a b => some (V.int (Builtin.bitXor a b))) (pv 0) (p2 (int2 fun a b => if 0 ≤ b ∧ b ≤ 1000 ∧ small a = true then some (V.int (a * 2 ^ b.toNat)) else none) (pv 5) (pv 4)))
        ([.val (J x), .val (J L), .val (J R), .val (J M), .val (J s), .val (J (x / 2 ^ s)), .undef, .ref 0, .undef, .val (J w)] : Cx) ([.list l] : AH) = some (J (x % 2 ^ s)) := by
      rw [p2_of (a := J x) (b := J (x / 2 ^ s * 2 ^ s)) rfl ((p2_of (a := J (x / 2 ^ s)) (b := J s) rfl rfl).trans (shl_J (small_nat (Nat.lt_of_le_of_lt (Nat.div_le_self _ _) hx) (by decide)) hs))]
      show some (V.int (Builtin.bitXor (x : Int) ((x / 2 ^ s * 2 ^ s : Nat) : Int))) = _
      rw [xor_low]
    rw [xseq_of (xset_of e6)]
    rfl
theorem set_put {α : Type} (l : List α) {L : Nat} (x : α) (h : L < l.length) : l.set L x = l.take L ++ [x] ++ l.drop (L + 1) := by
  rw [List.set_eq_take_append_cons_drop, if_pos h]; simp
/-- the figures put between L and R -/
noncomputable def put (l : List V) (L R : Nat) (ds : List Nat) : List V := l.take L ++ ds.map J ++ l.drop R
theorem put_len {l : List V} {L R : Nat} {ds : List Nat} (h1 : L ≤ R) (h2 : R ≤ l.length) (h3 : ds.length = R - L) : (put l L R ds).length = l.length := by
  unfold put; simp; (first | lia | omega)
theorem put_put {l : List V} {L M R : Nat} {ds es : List Nat} (h1 : L ≤ M) (h2 : M ≤ R) (h3 : R ≤ l.length) (h4 : ds.length = M - L) : put (put l L M ds) M R es = put l L R (ds ++ es) := by
  have e1 : (l.take L ++ ds.map J).length = M := by simp; (first | lia | omega)
  have e2 : (put l L M ds).take M = l.take L ++ ds.map J := by
    unfold put
    rw [List.take_append_of_le_length (by (first | lia | omega)), List.take_of_length_le (by (first | lia | omega))]
  have e3 : (put l L M ds).drop R = l.drop R := by
    unfold put
    rw [List.drop_append, List.drop_of_length_le (by (first | lia | omega)), e1, List.drop_drop, List.nil_append, show M + (R - M) = R by (first | lia | omega)]
  show (put l L M ds).take M ++ es.map J ++ (put l L M ds).drop R = _
  rw [e2, e3]
  unfold put
  rw [List.map_append, List.append_assoc (l.take L)]
theorem inI_digs {w : Nat} (hw1 : w ≤ 900) : ∀ (k x L R : Nat) (l : List V), x < 2 ^ (w * (R - L)) → x < 2 ^ 900 → L < R → R ≤ l.length → w * l.length ≤ 1000 → l.length ≤ 1000 → R - L ≤ 2 ^ k → inI (w : Int) (k + 1) [J x, J L, J R] l = some (put l L R (digs w (R - L) x))
  | k, x, L, R, l, hx, hx9, h1, h2, hwl, hll, h3 => by
    rw [inI, if_pos (show [J x, J L, J R].length = 3 from rfl)]
    by_cases hleaf : R = L + 1
    · subst hleaf
      rw [gi_leaf (by (first | lia | omega))]
      show some (l.set L (J x)) = some (put l L (L + 1) (digs w (L + 1 - L) x))
      rw [set_put l (J x) (by (first | lia | omega)), Nat.add_sub_cancel_left]
      rw [Nat.add_sub_cancel_left, Nat.mul_one] at hx
      show _ = some (l.take L ++ [J (x % 2 ^ w)] ++ l.drop (L + 1))
      rw [Nat.mod_eq_of_lt hx]
    · match k, h3 with
      | 0, h3 => exact absurd h3 (by simp; (first | lia | omega))
      | k + 1, h3 =>
        have hk : 2 ^ (k + 1) = 2 * 2 ^ k := by rw [Nat.pow_succ]; (first | lia | omega)
        have hsh : ((L + R) / 2 - L) * w ≤ 1000 := by
          rw [Nat.mul_comm]
          exact Nat.le_trans (Nat.mul_le_mul_left _ (show (L + R) / 2 - L ≤ l.length by (first | lia | omega))) hwl
        rw [gi_node (by (first | lia | omega)) (by (first | lia | omega)) (by (first | lia | omega)) hx9 hsh]
        generalize hM : (L + R) / 2 = M at *
        have hms : (M - L) * w = w * (M - L) := Nat.mul_comm _ _
        rw [hms] at *
        have hR : w * (R - L) = w * (M - L) + w * (R - M) := by rw [← Nat.mul_add]; congr 1; (first | lia | omega)
        have i1 := inI_digs hw1 k (x % 2 ^ (w * (M - L))) L M l (Nat.mod_lt _ (Nat.two_pow_pos _)) (Nat.lt_of_le_of_lt (Nat.mod_le _ _) hx9) (by (first | lia | omega)) (by (first | lia | omega)) hwl hll (by (first | lia | omega))
        have hlen := put_len (l := l) (ds := digs w (M - L) (x % 2 ^ (w * (M - L)))) (show L ≤ M by (first | lia | omega)) (by (first | lia | omega)) (digs_len ..)
        have i2 := inI_digs hw1 k (x / 2 ^ (w * (M - L))) M R (put l L M (digs w (M - L) (x % 2 ^ (w * (M - L)))))
          (Nat.div_lt_of_lt_mul (by rw [← Nat.pow_add, ← hR]; exact hx)) (Nat.lt_of_le_of_lt (Nat.div_le_self _ _) hx9) (by (first | lia | omega)) (by (first | lia | omega)) (by rw [hlen]; exact hwl) (by (first | lia | omega)) (by (first | lia | omega))
        have a1 : ∀ l', a3 6 1 3 ([.val (J x), .val (J L), .val (J R), .val (J M), .val (J (w * (M - L))), .val (J (x / 2 ^ (w * (M - L)))), .val (J (x % 2 ^ (w * (M - L)))), .ref 0, .undef, .val (J w)] : Cx) ([.list l'] : AH) = some [J (x % 2 ^ (w * (M - L))), J L, J M] := fun _ => rfl
        have a2' : ∀ l', a3 5 3 2 ([.val (J x), .val (J L), .val (J R), .val (J M), .val (J (w * (M - L))), .val (J (x / 2 ^ (w * (M - L)))), .val (J (x % 2 ^ (w * (M - L)))), .ref 0, .undef, .val (J w)] : Cx) ([.list l'] : AH) = some [J (x / 2 ^ (w * (M - L))), J M, J R] := fun _ => rfl
        rw [Option.bind_some]
        dsimp only
        rw [a1, Option.bind_some, i1, Option.bind_some, a2', Option.bind_some, i2, put_put (by (first | lia | omega)) (by (first | lia | omega)) h2 (digs_len ..)]
        have e9 := digs_add w (M - L) (R - M) x
        rw [show M - L + (R - M) = R - L by (first | lia | omega)] at e9
        rw [e9]
noncomputable def bitsN (x : Nat) : Nat := if x = 0 then 0 else x.log2 + 1
theorem bits_lt (x : Nat) : x < 2 ^ bitsN x := by
  unfold bitsN
  split
  · subst x; decide
  · exact Nat.lt_log2_self
theorem bits_J (x : Nat) : bitsV (J x) [] = some (J (bitsN x)) := by
  show some (V.int (Builtin.Int.intBits (x : Int) : Nat)) = _
  unfold Builtin.Int.intBits bitsN
  by_cases h : x = 0
  · subst h; rfl
  · rw [if_neg h, if_neg (by simp; (first | lia | omega)), Int.natAbs_natCast]
theorem fdiv_J {a b : Nat} (h : 0 < b) (hs : small (b : Int) = true) : int2 (fun a b => if b ≠ 0 ∧ small b = true then some (.int (a.fdiv b)) else none) (J a) (J b) = some (J (a / b)) := by
  show (if (b : Int) ≠ 0 ∧ small (b : Int) = true then some (V.int ((a : Int).fdiv (b : Int))) else none) = _
  rw [if_pos ⟨by (first | lia | omega), hs⟩]
  show _ = some (V.int (((a / b : Nat)) : Int))
  rw [Int.natCast_ediv, Int.fdiv_eq_ediv_of_nonneg _ (by (first | lia | omega))]
noncomputable def figs (w x : Nat) : Nat := (bitsN x + w - 1) / w
theorem i2d_of {w x : Nat} (hw : 1 ≤ w) (hw1 : w ≤ 900) (hx : x < 2 ^ 900) (hk : figs w x ≤ 128) (hwk : w * figs w x ≤ 1000) : pfn xs_I 2 fI [J x, J w] = some (N (digs w (figs w x) x)) := by
  rw [pfn_run (np := 2) (xs := xs_I) (ps := [J x, J w]) [.val (J x), .val (J w), .undef, .undef] rfl rfl]
  have hb : bitsN x ≤ 901 := by
    unfold bitsN
    split
    · (first | lia | omega)
    · rename_i h0
      have := (Nat.log2_lt h0).mpr hx
      (first | lia | omega)
  have e1 : pmulL (fun Γ σ => (pcons (pk (V.int 0)) (fun x x_1 => some []) Γ σ).bind fun l => if l.length ≤ lim then some l else none)
      (p2 (int2 fun a b => if b ≠ 0 ∧ small b = true then some (V.int (a.fdiv b)) else none) (p2 (int2 fun a b => some (V.int (a - b))) (p2 addV (pmeth bitsV (pv 0) fun x x_1 => some []) (pv 1)) (pk (V.int 1))) (pv 1))
      ([.val (J x), .val (J w), .undef, .undef] : Cx) ([] : AH) = some (List.replicate (figs w x) (V.int 0)) := by
    have f1 : (pcons (pk (V.int 0)) (fun x x_1 => some []) ([.val (J x), .val (J w), .undef, .undef] : Cx) ([] : AH)).bind (fun l => if l.length ≤ lim then some l else none) = some [V.int 0] := by
      rw [pcons_of rfl rfl, Option.bind_some, if_pos (by simp [lim])]
    have f2 : (p2 (int2 fun a b => if b ≠ 0 ∧ small b = true then some (V.int (a.fdiv b)) else none) (p2 (int2 fun a b => some (V.int (a - b))) (p2 addV (pmeth bitsV (pv 0) fun x x_1 => some []) (pv 1)) (pk (V.int 1))) (pv 1))
        ([.val (J x), .val (J w), .undef, .undef] : Cx) ([] : AH) = some (J (figs w x)) :=
      (p2_of (a := J (bitsN x + w - 1)) (b := J w) ((p2_of (a := J (bitsN x + w)) (b := J 1) ((p2_of (a := J (bitsN x)) (b := J w) ((pmeth_of (a := J x) (l := []) rfl rfl).trans (bits_J x)) rfl).trans (add_J _ _)) rfl).trans (sub_J (by (first | lia | omega)))) rfl).trans (fdiv_J (by (first | lia | omega)) (small_le (by (first | lia | omega))))
    unfold pmulL
    dsimp only
    rw [f1, f2]
    show (if -(2 ^ 62) ≤ ((figs w x : Nat) : Int) ∧ ((figs w x : Nat) : Int) ≤ 2 ^ 20 then some (List.replicate ((figs w x : Nat) : Int).toNat (V.int 0)) else none) = _
    rw [if_pos ⟨by (first | lia | omega), by (first | lia | omega)⟩, Int.toNat_natCast]
  have e2 : g_I.1 [.val (J x), .val (J w), .undef, .undef] [] = some (.next, [.val (J x), .val (J w), .ref 0, .undef], [.list (List.replicate (figs w x) (V.int 0))]) := by
    unfold g_I
    dsimp only
    rw [xseq_of (by unfold xmut; rw [e1]; rfl)]
    rfl
  have e3 : fI [.val (J x), .val (J w), .undef, .undef] [] = some (.ret (N (digs w (figs w x) x)), [.val (J x), .val (J w), .val (N (digs w (figs w x) x)), .undef], [.dead]) := by
    unfold fI
    rw [if_pos ⟨rfl, rfl, rfl⟩, show pint (pv 0) ([.val (J x), .val (J w), .undef, .undef] : Cx) ([] : AH) = some (x : Int) from rfl, Option.bind_some, show pint (pv 1) ([.val (J x), .val (J w), .undef, .undef] : Cx) ([] : AH) = some (w : Int) from rfl, Option.bind_some, e2, Option.bind_some]
    show Option.map _ (if (x : Int) = 0 then some (List.replicate (figs w x) (V.int 0)) else inI (w : Int) 8 [.int (x : Int), .int 0, .int ((List.replicate (figs w x) (V.int 0)).length : Nat)] (List.replicate (figs w x) (V.int 0))) = _
    by_cases h0 : x = 0
    · subst h0
      rw [if_pos (show ((0 : Nat) : Int) = 0 from rfl)]
      have : figs w 0 = 0 := by unfold figs bitsN; rw [if_pos rfl]; exact Nat.div_eq_of_lt (by (first | lia | omega))
      rw [this]
      rfl
    · have hpos : 0 < figs w x := by
        unfold figs bitsN
        rw [if_neg h0]
        exact Nat.div_pos (by (first | lia | omega)) (by (first | lia | omega))
      have hfit : x < 2 ^ (w * figs w x) := by
        refine Nat.lt_of_lt_of_le (bits_lt x) (Nat.pow_le_pow_right (by decide) ?_)
        unfold figs
        have := Nat.lt_mul_div_succ (bitsN x + w - 1) (show 0 < w by (first | lia | omega))
        rw [Nat.mul_succ] at this
        (first | lia | omega)
      rw [if_neg (by (first | lia | omega)), List.length_replicate]
      have i1 := inI_digs (w := w) hw1 7 x 0 (figs w x) (List.replicate (figs w x) (V.int 0)) (by simpa using hfit) hx hpos (by simp) (by simpa using hwk) (by simp; (first | lia | omega)) (by simpa using hk)
      have e5 : put (List.replicate (figs w x) (V.int 0)) 0 (figs w x) (digs w (figs w x - 0) x) = (digs w (figs w x) x).map J := by
        unfold put; simp
      rw [e5] at i1
      show Option.map _ (inI (w : Int) (7 + 1) [J x, J 0, J (figs w x)] _) = _
      rw [i1]
      rfl
  rw [e3]
  rfl
end Mine
/-! part 55 -/
namespace Mine
open PySem PySem.Calls PyProof.Rows
theorem pfn_val {xs : Names} {np : Nat} {f : S} {ps : List V} {v : V} {Γ' : Cx} {σ' : AH} (Γ : Cx) (h : ps.length = np) (hΓ : ps.map .val ++ List.replicate (xs.length - np) .undef = Γ) (hf : f Γ [] = some (.ret v, Γ', σ')) : pfn xs np f ps = some v := by
  rw [pfn_run Γ h hΓ, hf]; rfl
theorem test_of {f : E} {Γ : Cx} {σ : AH} {v : V} {b : Bool} (h : f Γ σ = some v) (hv : truth v = some b) : (fun Γ σ => (f Γ σ).bind truth : Et) Γ σ = some b := by
  show (f Γ σ).bind truth = some b
  rw [h]; exact hv
theorem tup_of {f : El} {Γ : Cx} {σ : AH} {l : List V} (h : f Γ σ = some l) (hl : l.length ≤ lim) : (fun Γ σ => (f Γ σ).bind fun l => if l.length ≤ lim then some (V.tup l) else none : E) Γ σ = some (.tup l) := by
  show (f Γ σ).bind _ = _
  rw [h, Option.bind_some, if_pos hl]
theorem disp_of {f : El} {Γ : Cx} {σ : AH} {l : List V} (h : f Γ σ = some l) (hl : l.length ≤ lim) : (fun Γ σ => (f Γ σ).bind fun l => if l.length ≤ lim then some l else none : El) Γ σ = some l := by
  show (f Γ σ).bind _ = _
  rw [h, Option.bind_some, if_pos hl]
theorem bits_le {x k : Nat} (h : x < 2 ^ k) : bitsN x ≤ k := by
  unfold bitsN
  split
  · (first | lia | omega)
  · rename_i h0
    have := (Nat.log2_lt h0).mpr h
    (first | lia | omega)
theorem small_J {x : Nat} (h : x < 2 ^ 900) : small (x : Int) = true := small_nat h (by decide)
theorem divmod_J {x b : Nat} (hb : 0 < b) (hs : small (b : Int) = true) : fn2 (int2 fun a b => if b ≠ 0 ∧ small b = true then some (V.tup [V.int (a.fdiv b), V.int (a.fmod b)]) else none) [J x, J b] = some (.tup [J (x / b), J (x % b)]) := by
  show (if (b : Int) ≠ 0 ∧ small (b : Int) = true then some (V.tup [V.int ((x : Int).fdiv (b : Int)), V.int ((x : Int).fmod (b : Int))]) else none) = _
  rw [if_pos ⟨by (first | lia | omega), hs⟩]
  show _ = some (V.tup [V.int (((x / b : Nat)) : Int), V.int (((x % b : Nat)) : Int)])
  rw [Int.natCast_ediv, Int.natCast_emod, Int.fdiv_eq_ediv_of_nonneg _ (by (first | lia | omega)), Int.fmod_eq_emod_of_nonneg _ (by (first | lia | omega))]
theorem div2n1n_ok {x b n : Nat} (hx : x < 2 ^ 900) (hb : 0 < b) (hb9 : b < 2 ^ 900) : w_div2n1n.1 [J x, J b, J n] = some (.tup [J (x / b), J (x % b)]) := by
  unfold w_div2n1n
  dsimp only
  have hbx := bits_le hx
  have e1 : (p2 (cmpI fun a b => decide (a ≤ b)) (p2 (int2 fun a b => some (V.int (a - b))) (pmeth bitsV (pv 0) fun x x_1 => some []) (pv 2)) (pk (V.int 4000))) ([.val (J x), .val (J b), .val (J n), .undef, .undef, .undef, .undef, .undef, .undef, .undef, .undef] : Cx) ([] : AH) = some (.bool true) := by
    rw [p2_of (a := .int ((bitsN x : Int) - (n : Int))) (b := .int 4000) ((p2_of (a := J (bitsN x)) (b := J n) ((pmeth_of (a := J x) (l := []) rfl rfl).trans (bits_J x)) rfl).trans rfl) rfl]
    show some (V.bool (decide ((bitsN x : Int) - (n : Int) ≤ 4000))) = _
    rw [decide_eq_true (by (first | lia | omega))]
  have e2 : (pcall (fn2 (int2 fun a b => if b ≠ 0 ∧ small b = true then some (V.tup [V.int (a.fdiv b), V.int (a.fmod b)]) else none)) (pcons (pv 0) (pcons (pv 1) fun x x_1 => some []))) ([.val (J x), .val (J b), .val (J n), .undef, .undef, .undef, .undef, .undef, .undef, .undef, .undef] : Cx) ([] : AH) = some (.tup [J (x / b), J (x % b)]) :=
    (pcall_of (l := [J x, J b]) (pcons_of rfl (pcons_of rfl rfl))).trans (divmod_J hb (small_J hb9))
  exact pfn_val _ rfl rfl (xseq_ret (Eq.trans (xif_true (test_of e1 rfl)) (ret_of e2)))
/-- long division, the highest figure first -/
noncomputable def ldiv (b n : Nat) : List Nat → Nat → List Nat × Nat
  | [], r => ([], r)
  | d :: t, r => ((r * 2 ^ n + d) / b :: (ldiv b n t ((r * 2 ^ n + d) % b)).1, (ldiv b n t ((r * 2 ^ n + d) % b)).2)
theorem ldiv_ok {b n : Nat} (hb : 0 < b) (hbn : b ≤ 2 ^ n) : ∀ (ds : List Nat) (r : Nat), (∀ d ∈ ds, d < 2 ^ n) → r < b →
    (ldiv b n ds r).1.length = ds.length ∧ (∀ q ∈ (ldiv b n ds r).1, q < 2 ^ n) ∧ (ldiv b n ds r).2 < b ∧ poly n (ldiv b n ds r).1.reverse * b + (ldiv b n ds r).2 = r * 2 ^ (n * ds.length) + poly n ds.reverse
  | [], r, _, hr => ⟨rfl, (fun q h => by simp [ldiv] at h), hr, by simp [ldiv, poly]⟩
  | d :: t, r, hd, hr => by
    have hdd := hd d (.head _)
    have hx : r * 2 ^ n + d < b * 2 ^ n := by
      have : (r + 1) * 2 ^ n ≤ b * 2 ^ n := Nat.mul_le_mul_right _ hr
      rw [Nat.succ_mul] at this
      (first | lia | omega)
    obtain ⟨h1, h2, h3, h4⟩ := ldiv_ok hb hbn t ((r * 2 ^ n + d) % b) (fun x hx => hd x (.tail _ hx)) (Nat.mod_lt _ hb)
    refine ⟨by simp [ldiv, h1], fun q hq => ?_, h3, ?_⟩
    · rcases List.mem_cons.mp hq with rfl | hq
      · exact Nat.div_lt_of_lt_mul hx
      · exact h2 q hq
    · have hdm := Nat.div_add_mod (r * 2 ^ n + d) b
      show poly n ((r * 2 ^ n + d) / b :: (ldiv b n t ((r * 2 ^ n + d) % b)).1).reverse * b + (ldiv b n t ((r * 2 ^ n + d) % b)).2 = _
      rw [List.reverse_cons, List.reverse_cons, poly_append, poly_append, List.length_reverse, List.length_reverse, h1, List.length_cons, Nat.mul_succ, Nat.pow_add]
      generalize (r * 2 ^ n + d) / b = q at *
      generalize (r * 2 ^ n + d) % b = r1 at *
      generalize poly n (ldiv b n t r1).1.reverse = Q at *
      generalize (ldiv b n t r1).2 = r2 at *
      generalize poly n t.reverse = T at *
      generalize 2 ^ (n * t.length) = P at *
      generalize 2 ^ n = B at *
      have p1 : ∀ z, poly n [z] = z := fun z => by simp [poly]
      rw [p1, p1, Nat.add_mul]
      have e1 : P * q * b = P * (b * q) := by rw [Nat.mul_assoc, Nat.mul_comm q]
      have e2 : P * (b * q) + r1 * P = P * (r * B + d) := by rw [Nat.mul_comm r1, ← Nat.mul_add, hdm]
      have e3 : P * (r * B + d) = r * (P * B) + P * d := by rw [Nat.mul_add]; congr 1; rw [Nat.mul_left_comm]
      rw [e1]
      (first | lia | omega)
section
variable {a b n : Nat} (hb : 0 < b) (hbn : b ≤ 2 ^ n) (hn : n ≤ 400)
include hb hbn hn
theorem div_loop (A Ds : Sl) : ∀ (ds : List Nat) (r : Nat) (qs : List Nat) (x y : Sl), (∀ d ∈ ds, d < 2 ^ n) → r < b → qs.length + ds.length ≤ 1000 → ∃ x' y', pfor 6
      (xseq (xset2t 7 4 (pcall w_div2n1n.val (pcons (p2 addV (p2 (int2 fun a b => if 0 ≤ b ∧ b ≤ 1000 ∧ small a = true then some (V.int (a * 2 ^ b.toNat)) else none) (pv 4) (pv 2)) (pv 6)) (pcons (pv 1) (pcons (pv 2) fun x x_1 => some [])))))
        (xseq (xappend 5 (pv 7)) xnext)) (ds.map J)
      [A, .val (J b), .val (J n), Ds, .val (J r), .ref 0, x, y, .undef] [.list (qs.map J)] = some (.next, [A, .val (J b), .val (J n), Ds, .val (J (ldiv b n ds r).2), .ref 0, x', y', .undef], [.list ((qs ++ (ldiv b n ds r).1).map J)])
  | [], r, qs, x, y, _, _, _ => ⟨x, y, by rw [List.map_nil, pfor]; simp [ldiv]⟩
  | d :: t, r, qs, x, y, hd, hr, hl => by
    have hdd := hd d (.head _)
    have hb4 : b < 2 ^ 900 := Nat.lt_of_le_of_lt hbn (Nat.pow_lt_pow_right (by decide) (by (first | lia | omega)))
    have hx : r * 2 ^ n + d < 2 ^ 900 := by
      have h1 : (r + 1) * 2 ^ n ≤ b * 2 ^ n := Nat.mul_le_mul_right _ hr
      rw [Nat.succ_mul] at h1
      have h2 : b * 2 ^ n ≤ 2 ^ n * 2 ^ n := Nat.mul_le_mul_right _ hbn
      rw [← Nat.pow_add] at h2
      have h3 : 2 ^ (n + n) < 2 ^ 900 := Nat.pow_lt_pow_right (by decide) (by (first | lia | omega))
      (first | lia | omega)
    have e1 : (pcall w_div2n1n.val (pcons (p2 addV (p2 (int2 fun a b => if 0 ≤ b ∧ b ≤ 1000 ∧ small a = true then some (V.int (a * 2 ^ b.toNat)) else none) (pv 4) (pv 2)) (pv 6)) (pcons (pv 1) (pcons (pv 2) fun x x_1 => some []))))
        ([A, .val (J b), .val (J n), Ds, .val (J r), .ref 0, .val (J d), y, .undef] : Cx) ([.list (qs.map J)] : AH) = some (.tup [J ((r * 2 ^ n + d) / b), J ((r * 2 ^ n + d) % b)]) :=
      (pcall_of (l := [J (r * 2 ^ n + d), J b, J n]) (pcons_of ((p2_of (a := J (r * 2 ^ n)) (b := J d) ((p2_of (a := J r) (b := J n) rfl rfl).trans (shl_J (small_J (by (first | lia | omega))) (by (first | lia | omega)))) rfl).trans (add_J _ _)) (pcons_of rfl (pcons_of rfl rfl)))).trans (div2n1n_ok hx hb hb4)
    have e2 : xset2t 7 4 (pcall w_div2n1n.val (pcons (p2 addV (p2 (int2 fun a b => if 0 ≤ b ∧ b ≤ 1000 ∧ small a = true then some (V.int (a * 2 ^ b.toNat)) else none) (pv 4) (pv 2)) (pv 6)) (pcons (pv 1) (pcons (pv 2) fun x x_1 => some []))))
        ([A, .val (J b), .val (J n), Ds, .val (J r), .ref 0, .val (J d), y, .undef] : Cx) ([.list (qs.map J)] : AH) = some (.next, [A, .val (J b), .val (J n), Ds, .val (J ((r * 2 ^ n + d) % b)), .ref 0, .val (J d), .val (J ((r * 2 ^ n + d) / b)), .undef], [.list (qs.map J)]) := by
      unfold xset2t; rw [e1]; rfl
    have e3 : xappend 5 (pv 7) ([A, .val (J b), .val (J n), Ds, .val (J ((r * 2 ^ n + d) % b)), .ref 0, .val (J d), .val (J ((r * 2 ^ n + d) / b)), .undef] : Cx) ([.list (qs.map J)] : AH) =
        some (.next, [A, .val (J b), .val (J n), Ds, .val (J ((r * 2 ^ n + d) % b)), .ref 0, .val (J d), .val (J ((r * 2 ^ n + d) / b)), .undef], [.list ((qs ++ [(r * 2 ^ n + d) / b]).map J)]) := by
      show (if (qs.map J).length + 1 ≤ lim then _ else _) = _
      rw [if_pos (by rw [List.length_map]; simp at hl; unfold lim; (first | lia | omega)), List.map_append]
      rfl
    obtain ⟨x', y', h⟩ := div_loop A Ds t ((r * 2 ^ n + d) % b) (qs ++ [(r * 2 ^ n + d) / b]) (.val (J d)) (.val (J ((r * 2 ^ n + d) / b))) (fun z hz => hd z (.tail _ hz)) (Nat.mod_lt _ hb) (by simp at hl ⊢; (first | lia | omega))
    refine ⟨x', y', ?_⟩
    rw [List.map_cons, pfor]
    show Option.bind (xseq _ _ [A, .val (J b), .val (J n), Ds, .val (J r), .ref 0, .val (J d), y, .undef] [.list (qs.map J)]) _ = _
    rw [xseq_of e2, xseq_of e3]
    refine Eq.trans h ?_
    rw [List.append_assoc]
    rfl
end
theorem divmod_pos_ok {a b : Nat} (ha : a < 2 ^ 100) (hb : 0 < b) (hb1 : b < 2 ^ 100) : w_divmod_pos.1 [J a, J b] = some (.tup [J (a / b), J (a % b)]) := by
  obtain ⟨n, hn⟩ : ∃ n, n = bitsN b := ⟨_, rfl⟩
  have hn1 : 1 ≤ n := by rw [hn]; unfold bitsN; split <;> (first | lia | omega)
  have hn2 : n ≤ 100 := by rw [hn]; exact bits_le hb1
  have hbn : b ≤ 2 ^ n := by rw [hn]; exact Nat.le_of_lt (bits_lt b)
  have hba : bitsN a ≤ 100 := bits_le ha
  have hwf : n * figs n a ≤ 200 := by
    unfold figs
    have := Nat.mul_div_le (bitsN a + n - 1) n
    (first | lia | omega)
  have hf : figs n a ≤ 100 := by
    unfold figs
    rw [Nat.div_le_iff_le_mul_add_pred (by (first | lia | omega))]
    have : 100 ≤ n * 100 := by (first | lia | omega)
    (first | lia | omega)
  have h900 : a < 2 ^ 900 := Nat.lt_trans ha (Nat.pow_lt_pow_right (by decide) (by decide))
  have hfit : a < 2 ^ (n * figs n a) := by
    refine Nat.lt_of_lt_of_le (bits_lt a) (Nat.pow_le_pow_right (by decide) ?_)
    unfold figs
    have := Nat.lt_mul_div_succ (bitsN a + n - 1) (show 0 < n by (first | lia | omega))
    rw [Nat.mul_succ] at this
    (first | lia | omega)
  unfold w_divmod_pos
  dsimp only
  rw [pfn_run [.val (J a), .val (J b), .undef, .undef, .undef, .undef, .undef, .undef, .undef]]
  rotate_left
  · rfl
  · rfl
  rw [xseq_of (xset_of (v := J n) ((pmeth_of (a := J b) (l := []) rfl rfl).trans (by rw [hn]; exact bits_J b)))]
  rw [show ([.val (J a), .val (J b), .undef, .undef, .undef, .undef, .undef, .undef, .undef] : Cx).set 2 (.val (J n)) = [.val (J a), .val (J b), .val (J n), .undef, .undef, .undef, .undef, .undef, .undef] from rfl]
  rw [xseq_of (xset_of ((pcall_of (l := [J a, J n]) (pcons_of rfl (pcons_of rfl rfl))).trans (i2d_of hn1 (by (first | lia | omega)) h900 (by (first | lia | omega)) (by (first | lia | omega)))))]
  generalize hD : digs n (figs n a) a = ds
  have hdl : ds.length = figs n a := by rw [← hD]; exact digs_len ..
  have hdd : ∀ d ∈ ds, d < 2 ^ n := by rw [← hD]; exact digs_lt _ _ _
  have hdp : poly n ds = a := by rw [← hD]; exact digs_poly _ _ _ hfit
  rw [show ([.val (J a), .val (J b), .val (J n), .undef, .undef, .undef, .undef, .undef, .undef] : Cx).set 3 (.val (N ds)) = [.val (J a), .val (J b), .val (J n), .val (N ds), .undef, .undef, .undef, .undef, .undef] from rfl]
  rw [xseq_of (xset_of (v := J 0) rfl)]
  rw [show ([.val (J a), .val (J b), .val (J n), .val (N ds), .undef, .undef, .undef, .undef, .undef] : Cx).set 4 (.val (J 0)) = [.val (J a), .val (J b), .val (J n), .val (N ds), .val (J 0), .undef, .undef, .undef, .undef] from rfl]
  have e5 : xmut 5 (fun Γ σ => (some []).bind fun l => if l.length ≤ lim then some l else none) [.val (J a), .val (J b), .val (J n), .val (N ds), .val (J 0), .undef, .undef, .undef, .undef] [] = some (.next, [.val (J a), .val (J b), .val (J n), .val (N ds), .val (J 0), .ref 0, .undef, .undef, .undef], [.list (([] : List Nat).map J)]) := by
    unfold xmut
    dsimp only
    rw [Option.bind_some, if_pos (by simp [lim])]
    rfl
  rw [xseq_of e5]
  obtain ⟨l1, l2, l3, l4⟩ := ldiv_ok hb hbn ds.reverse 0 (fun d hd => hdd d (List.mem_reverse.mp hd)) hb
  obtain ⟨x, y, hlo⟩ := div_loop hb hbn (show n ≤ 400 by (first | lia | omega)) (.val (J a)) (.val (N ds)) ds.reverse 0 [] .undef .undef (fun d hd => hdd d (List.mem_reverse.mp hd)) hb (by simp; (first | lia | omega))
  rw [List.reverse_reverse, hdp, Nat.zero_mul, Nat.zero_add] at l4
  rw [List.length_reverse, hdl] at l1
  generalize hq : (ldiv b n ds.reverse 0).1 = qs at *
  generalize (ldiv b n ds.reverse 0).2 = r at *
  have e6 : ∀ g, xfor 6 (fun Γ σ => Option.map List.reverse (pl (pv 3) Γ σ)) g [.val (J a), .val (J b), .val (J n), .val (N ds), .val (J 0), .ref 0, .undef, .undef, .undef] [.list (([] : List Nat).map J)] = pfor 6 g (ds.reverse.map J) [.val (J a), .val (J b), .val (J n), .val (N ds), .val (J 0), .ref 0, .undef, .undef, .undef] [.list (([] : List Nat).map J)] := by
    intro g
    show pfor 6 g (ds.map J).reverse _ _ = _
    rw [List.map_reverse]
  rw [xseq_of ((e6 _).trans hlo)]
  rw [List.nil_append]
  rw [xseq_of (show xreverse 5 [.val (J a), .val (J b), .val (J n), .val (N ds), .val (J r), .ref 0, x, y, .undef] [.list (qs.map J)] = some (.next, [.val (J a), .val (J b), .val (J n), .val (N ds), .val (J r), .ref 0, x, y, .undef], [.list (qs.reverse.map J)]) by
    rw [List.map_reverse]; rfl)]
  have e7 : xfrz 5 (xset 8 (pcall (pfn xs_D 2 fD) (pcons (pv 5) (pcons (pv 2) fun x x_1 => some [])))) [.val (J a), .val (J b), .val (J n), .val (N ds), .val (J r), .ref 0, x, y, .undef] [.list (qs.reverse.map J)] =
      some (.next, [.val (J a), .val (J b), .val (J n), .val (N ds), .val (J r), .val (N qs.reverse), x, y, .val (J (poly n qs.reverse))], [.dead]) := by
    show xset 8 _ [.val (J a), .val (J b), .val (J n), .val (N ds), .val (J r), .val (N qs.reverse), x, y, .undef] [.dead] = _
    rw [xset_of ((pcall_of (l := [N qs.reverse, J n]) (pcons_of rfl (pcons_of rfl rfl))).trans (d2i_of (fun q hq => l2 q (List.mem_reverse.mp hq)) (by rw [List.length_reverse, l1]; (first | lia | omega)) (by rw [List.length_reverse, l1]; (first | lia | omega)) (by (first | lia | omega))))]
    rfl
  rw [xseq_of e7]
  have hQ : a / b = poly n qs.reverse ∧ a % b = r := by
    have : a = r + b * poly n qs.reverse := by rw [Nat.mul_comm]; (first | lia | omega)
    exact ⟨by rw [this, Nat.add_mul_div_left _ _ hb, Nat.div_eq_of_lt l3, Nat.zero_add], by rw [this, Nat.add_mul_mod_self_left, Nat.mod_eq_of_lt l3]⟩
  refine Eq.trans (congrArg (Option.bind · retV) (ret_of (v := .tup [J (poly n qs.reverse), J r]) (tup_of (pcons_of rfl (pcons_of rfl rfl)) (by simp [lim])))) ?_
  rw [hQ.1, hQ.2]
  rfl
/-! int_divmod -/
theorem lt_J0 (a : Nat) : cmpI (fun a b => decide (a < b)) (J a) (.int 0) = some (.bool false) := by
  show some (V.bool (decide ((a : Int) < 0))) = _
  rw [decide_eq_false (by (first | lia | omega))]
theorem eq_J0 {b : Nat} (hb : 0 < b) : eqV (J b) (.int 0) = some (.bool false) := by
  refine (eq_J b 0).trans ?_
  congr 2
  rw [beq_eq_false_iff_ne]; (first | lia | omega)
theorem divA_ok {a b : Nat} (ha : a < 2 ^ 100) (hb : 0 < b) (hb1 : b < 2 ^ 100) : w_divA.1 [J a, J b] = some (.tup [J (a / b), J (a % b)]) := by
  unfold w_divA
  dsimp only
  refine pfn_val (Γ' := [.val (J a), .val (J b), .undef, .undef]) (σ' := []) [.val (J a), .val (J b), .undef, .undef] rfl rfl (xseq_ret ?_)
  refine Eq.trans (xif_false (test_of ((p2_of (a := J b) (b := .int 0) rfl rfl).trans (eq_J0 hb)) rfl)) (xseq_ret ?_)
  refine Eq.trans (xif_false (test_of ((p2_of (a := J b) (b := .int 0) rfl rfl).trans (lt_J0 b)) rfl)) (xseq_ret ?_)
  refine Eq.trans (xif_false (test_of ((p2_of (a := J a) (b := .int 0) rfl rfl).trans (lt_J0 a)) rfl)) ?_
  exact ret_of (Eq.trans (pcall_of (l := [J a, J b]) (pcons_of rfl (pcons_of rfl rfl))) (divmod_pos_ok ha hb hb1))
theorem divB_ok {a b : Nat} (ha : a < 2 ^ 100) (hb : 0 < b) (hb1 : b < 2 ^ 100) : w_divB.1 [J a, J b] = some (.tup [J (a / b), J (a % b)]) := by
  unfold w_divB
  dsimp only
  refine pfn_val (Γ' := [.val (J a), .val (J b), .undef, .undef]) (σ' := []) [.val (J a), .val (J b), .undef, .undef] rfl rfl (xseq_ret ?_)
  refine Eq.trans (xif_false (test_of ((p2_of (a := J b) (b := .int 0) rfl rfl).trans (eq_J0 hb)) rfl)) (xseq_ret ?_)
  refine Eq.trans (xif_false (test_of ((p2_of (a := J b) (b := .int 0) rfl rfl).trans (lt_J0 b)) rfl)) (xseq_ret ?_)
  refine Eq.trans (xif_false (test_of ((p2_of (a := J a) (b := .int 0) rfl rfl).trans (lt_J0 a)) rfl)) ?_
  exact ret_of (Eq.trans (pcall_of (l := [J a, J b]) (pcons_of rfl (pcons_of rfl rfl))) (divmod_pos_ok ha hb hb1))
/-- a dividend below nought that leaves no rest -/
theorem divB_neg {a b u : Nat} (ha : a < 2 ^ 100) (hb : 0 < b) (hb1 : b < 2 ^ 100) (hu : 0 < u) (hab : a = u * b) : w_divB.1 [.int (-(a : Int)), J b] = some (.tup [.int (-(u : Int)), J 0]) := by
  have hpos : 0 < a := by rw [hab]; exact Nat.mul_pos hu hb
  have hq : (a - 1) / b = u - 1 ∧ (a - 1) % b = b - 1 := by
    obtain ⟨v, rfl⟩ : ∃ v, u = v + 1 := ⟨u - 1, by (first | lia | omega)⟩
    have : a - 1 = (b - 1) + b * v := by rw [hab, Nat.succ_mul, Nat.mul_comm]; (first | lia | omega)
    exact ⟨by rw [this, Nat.add_mul_div_left _ _ hb, Nat.div_eq_of_lt (by (first | lia | omega))]; (first | lia | omega), by rw [this, Nat.add_mul_mod_self_left, Nat.mod_eq_of_lt (by (first | lia | omega))]⟩
  unfold w_divB
  dsimp only
  have e1 : (pcall w_divA.val (pcons (p1 (int1 fun a => some (V.int (-a - 1))) (pv 0)) (pcons (pv 1) fun x x_1 => some []))) ([.val (.int (-(a : Int))), .val (J b), .undef, .undef] : Cx) ([] : AH) = some (.tup [J (u - 1), J (b - 1)]) := by
    rw [pcall_of (l := [J (a - 1), J b]) (pcons_of ((p1_of (a := .int (-(a : Int))) rfl).trans (by
      show some (V.int (-(-(a : Int)) - 1)) = some (V.int ((a - 1 : Nat) : Int))
      congr 2; (first | lia | omega))) (pcons_of rfl rfl)), divA_ok (by (first | lia | omega)) hb hb1, hq.1, hq.2]
  have e2 : xset2t 2 3 (pcall w_divA.val (pcons (p1 (int1 fun a => some (V.int (-a - 1))) (pv 0)) (pcons (pv 1) fun x x_1 => some []))) ([.val (.int (-(a : Int))), .val (J b), .undef, .undef] : Cx) ([] : AH) = some (.next, [.val (.int (-(a : Int))), .val (J b), .val (J (u - 1)), .val (J (b - 1))], []) := by
    unfold xset2t; rw [e1]; rfl
  refine pfn_val (Γ' := [.val (.int (-(a : Int))), .val (J b), .val (J (u - 1)), .val (J (b - 1))]) (σ' := []) [.val (.int (-(a : Int))), .val (J b), .undef, .undef] rfl rfl (xseq_ret ?_)
  refine Eq.trans (xif_false (test_of ((p2_of (a := J b) (b := .int 0) rfl rfl).trans (eq_J0 hb)) rfl)) (xseq_ret ?_)
  refine Eq.trans (xif_false (test_of ((p2_of (a := J b) (b := .int 0) rfl rfl).trans (lt_J0 b)) rfl)) (xseq_ret ?_)
  have hneg : cmpI (fun a b => decide (a < b)) (.int (-(a : Int))) (.int 0) = some (.bool true) := by
    show some (V.bool (decide (-(a : Int) < 0))) = _
    rw [decide_eq_true (by (first | lia | omega))]
  refine Eq.trans (xif_true (test_of ((p2_of (a := .int (-(a : Int))) (b := .int 0) rfl rfl).trans hneg) rfl)) ?_
  rw [xseq_of e2]
  refine ret_of (tup_of (pcons_of (a := .int (-(u : Int))) (l := [J 0]) ?_ (pcons_of ?_ rfl)) (by simp [lim]))
  · refine (p1_of (a := J (u - 1)) rfl).trans ?_
    show some (V.int (-((u - 1 : Nat) : Int) - 1)) = _
    congr 2; (first | lia | omega)
  · refine (p2_of (a := J b) (b := .int (-(b : Int))) rfl ((p1_of (a := J (b - 1)) rfl).trans ?_)).trans ?_
    · show some (V.int (-((b - 1 : Nat) : Int) - 1)) = _
      congr 2; (first | lia | omega)
    · show some (V.int ((b : Int) + -(b : Int))) = some (V.int ((0 : Nat) : Int))
      congr 2; (first | lia | omega)
end Mine
/-! part 56 -/
namespace Mine
open PySem PySem.Calls PyProof.Rows
noncomputable def grow (c : List Nat) (b : Nat) : List Nat := if c.length ≤ b then c ++ List.replicate (b - c.length + 1) 0 else c
noncomputable def upd (c : List Nat) (b : Nat) : List Nat := (grow c b).set b ((grow c b).getD b 0 + 1)
/-- how often each run comes -/
noncomputable def counts (l : List Nat) : List Nat := l.foldl upd []
theorem grow_len (c : List Nat) (b : Nat) : b < (grow c b).length := by
  unfold grow
  split
  · simp; (first | lia | omega)
  · (first | lia | omega)
theorem grow_le (c : List Nat) (b : Nat) : (grow c b).length ≤ max c.length (b + 1) := by
  unfold grow
  split
  · simp; (first | lia | omega)
  · (first | lia | omega)
theorem pmulL_of {f : El} {g : E} {Γ : Cx} {σ : AH} {v : V} {k : Nat} (hf : f Γ σ = some [v]) (hg : g Γ σ = some (J k)) (hk : k ≤ 1000000) : pmulL f g Γ σ = some (List.replicate k v) := by
  unfold pmulL
  rw [hf, hg]
  show (if -(2 ^ 62) ≤ ((k : Nat) : Int) ∧ ((k : Nat) : Int) ≤ 2 ^ 20 then some (List.replicate ((k : Nat) : Int).toNat v) else none) = _
  rw [if_pos ⟨by (first | lia | omega), by (first | lia | omega)⟩, Int.toNat_natCast]
theorem xsetitem_of {i k j : Nat} {f g : E} {Γ : Cx} {σ : AH} {v : V} {l : List V} (hv : f Γ σ = some v) (hl : asList Γ σ i = some (j, l)) (hk : g Γ σ = some (J k)) (hlt : k < l.length) : xsetitem i f g Γ σ = some (.next, Γ, σ.set j (.list (l.set k v))) := by
  unfold xsetitem
  rw [hv, Option.bind_some, hl, Option.bind_some, hk]
  show (if (0 : Int) ≤ (k : Int) ∧ (k : Int) < (l.length : Int) then some (Fl.next, Γ, σ.set j (.list (l.set ((k : Int)).toNat v))) else none) = _
  rw [if_pos ⟨by (first | lia | omega), by (first | lia | omega)⟩, Int.toNat_natCast]
theorem pitemN_of {f : El} {g : E} {Γ : Cx} {σ : AH} {l : List V} {k : Nat} {v : V} (hf : f Γ σ = some l) (hg : g Γ σ = some (J k)) (hk : k ≤ 1000000) (h : l[k]? = some v) : pitemN f g Γ σ = some v := by
  unfold pitemN
  rw [hf, Option.bind_some, hg, Option.bind_some]
  show pix l (k : Int) = _
  rw [pix_nat _ _ hk, h]
noncomputable abbrev cntIf : S := xif (fun Γ σ => (p2 (cmpI fun a b => decide (a ≥ b)) (pv 5) (fun Γ σ => (pref 4 Γ σ).bind fun l => some (V.int ↑l.length)) Γ σ).bind truth)
  (xseq (xmut 4 (p2l (pref 4) (pmulL (fun Γ σ => (pcons (pk (V.int 0)) (fun x x_1 => some []) Γ σ).bind fun l => if l.length ≤ lim then some l else none)
    (p2 addV (p2 (int2 fun a b => some (V.int (a - b))) (pv 5) fun Γ σ => (pref 4 Γ σ).bind fun l => some (V.int ↑l.length)) (pk (V.int 1)))) paddL)) xnext) xnext
noncomputable abbrev cntSet : S := xsetitem 4 (p2 addV (pitemN (pref 4) (pv 5)) (pk (V.int 1))) (pv 5)
noncomputable abbrev tabPart : S := xseq (xset 6 (p2 addV (pv 6) (pk (V.int 1)))) (xseq (xset 7 (p2 addV (pv 7) (pk (V.int 1)))) (xseq cntIf (xseq cntSet (xseq (xset 5 (pk (V.int 0))) xnext))))
noncomputable abbrev wsBody : S := xseq (xif (fun Γ σ => (p2 eqV (pv 8) (pv 2) Γ σ).bind truth)
    (xseq (xset 6 (p2 addV (pv 6) (pk (V.int 1)))) (xseq (xset 5 (p2 addV (pv 5) (pk (V.int 1)))) xnext))
    (xseq (xif (fun Γ σ => (p2 eqV (pv 8) (pv 3) Γ σ).bind truth) tabPart (xseq (fun Γ σ => some (Fl.brk, Γ, σ)) xnext)) xnext)) xnext
/-- the frame of __init__ in its loop -/
noncomputable def fr (P : V) (j b n t : Nat) (x : Sl) : Cx := [.ref 0, .val P, .val (.str [32]), .val (.str [9]), .ref j, .val (J b), .val (J n), .val (J t), x]
theorem space_step (P : V) (j b n t : Nat) (σ : AH) : wsBody (fr P j b n t (.val (.str [32]))) σ = some (.next, fr P j (b + 1) (n + 1) t (.val (.str [32])), σ) := by
  have e : xif (fun Γ σ => (p2 eqV (pv 8) (pv 2) Γ σ).bind truth) (xseq (xset 6 (p2 addV (pv 6) (pk (V.int 1)))) (xseq (xset 5 (p2 addV (pv 5) (pk (V.int 1)))) xnext))
    (xseq (xif (fun Γ σ => (p2 eqV (pv 8) (pv 3) Γ σ).bind truth) tabPart (xseq (fun Γ σ => some (Fl.brk, Γ, σ)) xnext)) xnext) (fr P j b n t (.val (.str [32]))) σ = some (.next, fr P j (b + 1) (n + 1) t (.val (.str [32])), σ) := by
    rw [xif_true (test_of (v := .bool true) (p2_of (a := .str [32]) (b := .str [32]) rfl rfl) rfl)]
    rw [xseq_of (xset_of (v := J (n + 1)) ((p2_of (a := J n) (b := J 1) rfl rfl).trans (add_J n 1)))]
    rw [xseq_of (xset_of (v := J (b + 1)) ((p2_of (a := J b) (b := J 1) rfl rfl).trans (add_J b 1)))]
    rfl
  show xseq _ xnext _ _ = _
  rw [xseq_of e]
  rfl
theorem pref_fr (P : V) (b n t : Nat) (x : Sl) (σ0 : AH) (l : List V) : pref 4 (fr P σ0.length b n t x) (σ0 ++ [.list l]) = some l := by
  show (match (σ0 ++ [AO.list l])[σ0.length]? with | some (.list l) => some l | _ => none) = _
  rw [List.getElem?_append_right (Nat.le_refl _), Nat.sub_self]; rfl
theorem as_fr (P : V) (b n t : Nat) (x : Sl) (σ0 : AH) (l : List V) : asList (fr P σ0.length b n t x) (σ0 ++ [.list l]) 4 = some (σ0.length, l) := by
  show (match (σ0 ++ [AO.list l])[σ0.length]? with | some (.list l) => some (σ0.length, l) | _ => none) = _
  rw [List.getElem?_append_right (Nat.le_refl _), Nat.sub_self]; rfl
theorem cnt_if (P : V) (b n t : Nat) (x : Sl) (σ0 : AH) (c : List Nat) (hb : b ≤ 1000) (hc : c.length ≤ 2000) : ∃ r, cntIf (fr P σ0.length b n t x) (σ0 ++ [.list (c.map J)]) = some (.next, fr P (σ0 ++ r).length b n t x, (σ0 ++ r) ++ [.list ((grow c b).map J)]) := by
  have e0 : (fun Γ σ => (pref 4 Γ σ).bind fun l => some (V.int ↑l.length) : E) (fr P σ0.length b n t x) (σ0 ++ [.list (c.map J)]) = some (J c.length) := by
    show (pref 4 _ _).bind _ = _
    rw [pref_fr, Option.bind_some, List.length_map]
  have e1 : cmpI (fun a b => decide (a ≥ b)) (J b) (J c.length) = some (.bool (decide (c.length ≤ b))) := by
    show some (V.bool (decide ((b : Int) ≥ (c.length : Int)))) = _
    congr 2
    by_cases h : c.length ≤ b
    · rw [decide_eq_true h, decide_eq_true (by (first | lia | omega))]
    · rw [decide_eq_false h, decide_eq_false (by (first | lia | omega))]
  by_cases h : c.length ≤ b
  · refine ⟨[.list (c.map J)], ?_⟩
    rw [decide_eq_true h] at e1
    refine Eq.trans (xif_true (test_of ((p2_of (a := J b) rfl e0).trans e1) rfl)) ?_
    have e2 : p2l (pref 4) (pmulL (fun Γ σ => (pcons (pk (V.int 0)) (fun x x_1 => some []) Γ σ).bind fun l => if l.length ≤ lim then some l else none)
        (p2 addV (p2 (int2 fun a b => some (V.int (a - b))) (pv 5) fun Γ σ => (pref 4 Γ σ).bind fun l => some (V.int ↑l.length)) (pk (V.int 1)))) paddL (fr P σ0.length b n t x) (σ0 ++ [.list (c.map J)]) = some ((grow c b).map J) := by
      have f1 : (p2 addV (p2 (int2 fun a b => some (V.int (a - b))) (pv 5) fun Γ σ => (pref 4 Γ σ).bind fun l => some (V.int ↑l.length)) (pk (V.int 1))) (fr P σ0.length b n t x) (σ0 ++ [.list (c.map J)]) = some (J (b - c.length + 1)) :=
        (p2_of (a := J (b - c.length)) (b := J 1) ((p2_of (a := J b) rfl e0).trans (sub_J h)) rfl).trans (add_J _ _)
      have f2 : (fun Γ σ => (pcons (pk (V.int 0)) (fun x x_1 => some []) Γ σ).bind fun l => if l.length ≤ lim then some l else none : El) (fr P σ0.length b n t x) (σ0 ++ [.list (c.map J)]) = some [V.int 0] := disp_of (pcons_of rfl rfl) (by simp [lim])
      have f3 : pmulL (fun Γ σ => (pcons (pk (V.int 0)) (fun x x_1 => some []) Γ σ).bind fun l => if l.length ≤ lim then some l else none)
        (p2 addV (p2 (int2 fun a b => some (V.int (a - b))) (pv 5) fun Γ σ => (pref 4 Γ σ).bind fun l => some (V.int ↑l.length)) (pk (V.int 1))) (fr P σ0.length b n t x) (σ0 ++ [.list (c.map J)]) = some (List.replicate (b - c.length + 1) (V.int 0)) := pmulL_of f2 f1 (by (first | lia | omega))
      unfold p2l
      rw [pref_fr, Option.bind_some, f3, Option.bind_some]
      unfold paddL
      rw [if_pos (by simp [lim]; (first | lia | omega))]
      unfold grow
      rw [if_pos h, List.map_append, List.map_replicate]
      rfl
    rw [xseq_of (by unfold xmut; rw [e2]; rfl)]
    show some (Fl.next, (fr P σ0.length b n t x).set 4 (.ref (σ0 ++ [AO.list (c.map J)]).length), _) = _
    rfl
  · refine ⟨[], ?_⟩
    rw [decide_eq_false h] at e1
    refine Eq.trans (xif_false (test_of ((p2_of (a := J b) rfl e0).trans e1) rfl)) ?_
    unfold grow
    rw [if_neg h, List.append_nil]
    rfl
theorem cnt_set (P : V) (b n t : Nat) (x : Sl) (σ0 : AH) (c : List Nat) (hb : b ≤ 1000) : cntSet (fr P σ0.length b n t x) (σ0 ++ [.list ((grow c b).map J)]) = some (.next, fr P σ0.length b n t x, σ0 ++ [.list ((upd c b).map J)]) := by
  have hl := grow_len c b
  have e1 : pitemN (pref 4) (pv 5) (fr P σ0.length b n t x) (σ0 ++ [.list ((grow c b).map J)]) = some (J ((grow c b).getD b 0)) := by
    refine pitemN_of (pref_fr ..) rfl (by (first | lia | omega)) ?_
    rw [List.getElem?_map, List.getD_eq_getElem?_getD, List.getElem?_eq_getElem hl]
    rfl
  have e2 : p2 addV (pitemN (pref 4) (pv 5)) (pk (V.int 1)) (fr P σ0.length b n t x) (σ0 ++ [.list ((grow c b).map J)]) = some (J ((grow c b).getD b 0 + 1)) := (p2_of (b := J 1) e1 rfl).trans (add_J _ _)
  refine Eq.trans (xsetitem_of e2 (as_fr ..) rfl (by rw [List.length_map]; exact hl)) ?_
  rw [List.set_append_right _ _ (Nat.le_refl _), Nat.sub_self, ← List.map_set]
  rfl
theorem tab_step (P : V) (b n t : Nat) (σ0 : AH) (c : List Nat) (hb : b ≤ 1000) (hc : c.length ≤ 2000) : ∃ r, wsBody (fr P σ0.length b n t (.val (.str [9]))) (σ0 ++ [.list (c.map J)]) = some (.next, fr P (σ0 ++ r).length 0 (n + 1) (t + 1) (.val (.str [9])), (σ0 ++ r) ++ [.list ((upd c b).map J)]) := by
  obtain ⟨r, hr⟩ := cnt_if P b (n + 1) (t + 1) (.val (.str [9])) σ0 c hb hc
  refine ⟨r, ?_⟩
  have hs := cnt_set P b (n + 1) (t + 1) (.val (.str [9])) (σ0 ++ r) c hb
  have e3 : tabPart (fr P σ0.length b n t (.val (.str [9]))) (σ0 ++ [.list (c.map J)]) = some (.next, fr P (σ0 ++ r).length 0 (n + 1) (t + 1) (.val (.str [9])), (σ0 ++ r) ++ [.list ((upd c b).map J)]) := by
    show xseq _ _ _ _ = _
    rw [xseq_of (xset_of (v := J (n + 1)) ((p2_of (a := J n) (b := J 1) rfl rfl).trans (add_J n 1)))]
    rw [xseq_of (xset_of (v := J (t + 1)) ((p2_of (a := J t) (b := J 1) rfl rfl).trans (add_J t 1)))]
    show xseq cntIf _ (fr P σ0.length b (n + 1) (t + 1) (.val (.str [9]))) _ = _
    rw [xseq_of hr, xseq_of hs, xseq_of (xset_of (v := J 0) rfl)]
    rfl
  have e4 : xif (fun Γ σ => (p2 eqV (pv 8) (pv 3) Γ σ).bind truth) tabPart (xseq (fun Γ σ => some (Fl.brk, Γ, σ)) xnext) (fr P σ0.length b n t (.val (.str [9]))) (σ0 ++ [.list (c.map J)]) = some (.next, fr P (σ0 ++ r).length 0 (n + 1) (t + 1) (.val (.str [9])), (σ0 ++ r) ++ [.list ((upd c b).map J)]) :=
    Eq.trans (xif_true (test_of (v := .bool true) (p2_of (a := .str [9]) (b := .str [9]) rfl rfl) rfl)) e3
  have e5 : xif (fun Γ σ => (p2 eqV (pv 8) (pv 2) Γ σ).bind truth) (xseq (xset 6 (p2 addV (pv 6) (pk (V.int 1)))) (xseq (xset 5 (p2 addV (pv 5) (pk (V.int 1)))) xnext))
    (xseq (xif (fun Γ σ => (p2 eqV (pv 8) (pv 3) Γ σ).bind truth) tabPart (xseq (fun Γ σ => some (Fl.brk, Γ, σ)) xnext)) xnext) (fr P σ0.length b n t (.val (.str [9]))) (σ0 ++ [.list (c.map J)]) = some (.next, fr P (σ0 ++ r).length 0 (n + 1) (t + 1) (.val (.str [9])), (σ0 ++ r) ++ [.list ((upd c b).map J)]) := by
    rw [xif_false (test_of (v := .bool false) (p2_of (a := .str [9]) (b := .str [32]) rfl rfl) rfl), xseq_of e4]
    rfl
  show xseq _ xnext _ _ = _
  rw [xseq_of e5]
  rfl
theorem spaces_run (P : V) (j t : Nat) (σ : AH) (rest : List V) : ∀ (m b n : Nat) (x : Sl), ∃ y, pfor 8 wsBody (List.replicate m (.str [32]) ++ rest) (fr P j b n t x) σ = pfor 8 wsBody rest (fr P j (b + m) (n + m) t y) σ
  | 0, b, n, x => ⟨x, rfl⟩
  | m + 1, b, n, x => by
    obtain ⟨y, h⟩ := spaces_run P j t σ rest m (b + 1) (n + 1) (.val (.str [32]))
    refine ⟨y, ?_⟩
    rw [List.replicate_succ, List.cons_append, pfor]
    show Option.bind (wsBody (fr P j b n t (.val (.str [32]))) σ) _ = _
    rw [space_step]
    refine Eq.trans h ?_
    rw [show b + 1 + m = b + (m + 1) by (first | lia | omega), show n + 1 + m = n + (m + 1) by (first | lia | omega)]
theorem upd_len (c : List Nat) (b : Nat) : (upd c b).length ≤ max c.length (b + 1) := by
  unfold upd; rw [List.length_set]; exact grow_le c b
theorem runs_run (P : V) : ∀ (l : List Nat) (σ0 : AH) (c : List Nat) (n t : Nat) (x : Sl), (∀ k ∈ l, k ≤ 1000) → c.length ≤ 1001 → ∃ r n' t' y, pfor 8 wsBody ((leadT l).map fun s => V.str [s]) (fr P σ0.length 0 n t x) (σ0 ++ [.list (c.map J)]) =
    some (.next, fr P (σ0 ++ r).length 0 n' t' y, (σ0 ++ r) ++ [.list ((l.foldl upd c).map J)])
  | [], σ0, c, n, t, x, _, _ => ⟨[], n, t, x, by rw [List.append_nil]; rfl⟩
  | k :: l, σ0, c, n, t, x, hk, hc => by
    have h0 := hk k (.head _)
    have e : (leadT (k :: l)).map (fun s => V.str [s]) = List.replicate k (.str [32]) ++ (.str [9] :: (leadT l).map fun s => V.str [s]) := by
      show (((List.replicate k 32 ++ [9]) ++ leadT l).map fun s => V.str [s]) = _
      rw [List.map_append, List.map_append, List.map_replicate, List.append_assoc]; rfl
    obtain ⟨y, h1⟩ := spaces_run P σ0.length t (σ0 ++ [.list (c.map J)]) (.str [9] :: (leadT l).map fun s => V.str [s]) k 0 n x
    obtain ⟨r, h2⟩ := tab_step P (0 + k) (n + k) t σ0 c (by (first | lia | omega)) (by (first | lia | omega))
    have hu := upd_len c (0 + k)
    obtain ⟨r', n', t', y', h3⟩ := runs_run P l (σ0 ++ r) (upd c (0 + k)) (n + k + 1) (t + 1) (.val (.str [9])) (fun z hz => hk z (.tail _ hz)) (by (first | lia | omega))
    refine ⟨r ++ r', n', t', y', ?_⟩
    rw [e, h1, pfor]
    show Option.bind (wsBody (fr P σ0.length (0 + k) (n + k) t (.val (.str [9]))) _) _ = _
    rw [h2]
    refine Eq.trans h3 ?_
    rw [List.append_assoc, List.foldl_cons, Nat.zero_add]
theorem sum_each {l : List Nat} {m : Nat} (h : l.sum + l.length ≤ m) : ∀ k ∈ l, k ≤ m := fun k hk => by
  have := sum_ge l k hk
  (first | lia | omega)
theorem ws_ok {l : List Nat} (h : l.sum + l.length ≤ 1000) : wsV (.str (leadT l)) = some (.ws (.tup [.tup ((counts l).map J), J 0])) := by
  obtain ⟨r, n', t', y, hl⟩ := runs_run (.str (leadT l)) l [.inst [([114, 97, 119], .str (leadT l))]] [] 0 0 .undef (sum_each h) (by simp)
  have hg : ∃ Γ fs rest, g_init.1 (startI (.str (leadT l))) [.inst []] = some (.next, Γ, .inst fs :: rest) ∧ (fs.lookup equalChars).isNone = true ∧ fs.lookup normChars = some (.tup [.tup ((counts l).map J), J 0]) := by
    unfold g_init
    dsimp only
    rw [xseq_of (show xsetattr 0 [114, 97, 119] (pv 1) (startI (.str (leadT l))) [.inst []] = some (.next, startI (.str (leadT l)), [.inst [([114, 97, 119], .str (leadT l))]]) from rfl)]
    have e2 : xset2t 2 3 (fun Γ σ => (pcons (pk (V.str [32])) (pcons (pk (V.str [9])) fun x x_1 => some []) Γ σ).bind fun l => if l.length ≤ lim then some (V.tup l) else none) (startI (.str (leadT l))) [.inst [([114, 97, 119], .str (leadT l))]] =
        some (.next, [.ref 0, .val (.str (leadT l)), .val (.str [32]), .val (.str [9]), .undef, .undef, .undef, .undef, .undef], [.inst [([114, 97, 119], .str (leadT l))]]) := by
      unfold xset2t
      rw [tup_of (l := [.str [32], .str [9]]) (pcons_of rfl (pcons_of rfl rfl)) (by simp [lim])]
      rfl
    rw [xseq_of e2]
    have e3 : xmut 4 (fun Γ σ => (some []).bind fun l => if l.length ≤ lim then some l else none) [.ref 0, .val (.str (leadT l)), .val (.str [32]), .val (.str [9]), .undef, .undef, .undef, .undef, .undef] [.inst [([114, 97, 119], .str (leadT l))]] =
        some (.next, [.ref 0, .val (.str (leadT l)), .val (.str [32]), .val (.str [9]), .ref 1, .undef, .undef, .undef, .undef], [.inst [([114, 97, 119], .str (leadT l))], .list []]) := by
      unfold xmut
      dsimp only
      rw [Option.bind_some, if_pos (by simp [lim])]
      rfl
    rw [xseq_of e3]
    rw [xseq_of (show xset3 5 6 7 (pk (V.int 0)) [.ref 0, .val (.str (leadT l)), .val (.str [32]), .val (.str [9]), .ref 1, .undef, .undef, .undef, .undef] [.inst [([114, 97, 119], .str (leadT l))], .list []] = some (.next, fr (.str (leadT l)) 1 0 0 0 .undef, [.inst [([114, 97, 119], .str (leadT l))], .list []]) from rfl)]
    have e5 : ∀ g, xfor 8 (fun Γ σ => Option.map (fun x => List.map (fun c => V.str [c]) x) (pstr (pattr 0 [114, 97, 119]) Γ σ)) g (fr (.str (leadT l)) 1 0 0 0 .undef) [.inst [([114, 97, 119], .str (leadT l))], .list []] = pfor 8 g ((leadT l).map fun s => V.str [s]) (fr (.str (leadT l)) 1 0 0 0 .undef) [.inst [([114, 97, 119], .str (leadT l))], .list []] := fun g => rfl
    rw [xseq_of ((e5 _).trans hl)]
    rw [show ([AO.inst [([114, 97, 119], .str (leadT l))]] ++ r) ++ [AO.list ((l.foldl upd []).map J)] = AO.inst [([114, 97, 119], .str (leadT l))] :: (r ++ [AO.list ((counts l).map J)]) from rfl]
    have hlen : ([AO.inst [([114, 97, 119], .str (leadT l))]] ++ r).length = r.length + 1 := by simp
    rw [hlen]
    have hpref : ∀ (o : AO), pref 4 (fr (.str (leadT l)) (r.length + 1) 0 n' t' y) (o :: (r ++ [AO.list ((counts l).map J)])) = some ((counts l).map J) := fun o => by
      show (match (r ++ [AO.list ((counts l).map J)])[r.length]? with | some (.list l) => some l | _ => none) = _
      rw [List.getElem?_append_right (Nat.le_refl _), Nat.sub_self]; rfl
    have hp1 : ∀ (o : AO), (fun Γ σ => (pref 4 Γ σ).bind fun l => some (V.tup l) : E) (fr (.str (leadT l)) (r.length + 1) 0 n' t' y) (o :: (r ++ [AO.list ((counts l).map J)])) = some (.tup ((counts l).map J)) := fun o => by
      show (pref 4 _ _).bind _ = _
      rw [hpref]; rfl
    have hp2 : ∀ (o : AO), (fun Γ σ => (pref 4 Γ σ).bind fun l => some (V.int ↑l.length) : E) (fr (.str (leadT l)) (r.length + 1) 0 n' t' y) (o :: (r ++ [AO.list ((counts l).map J)])) = some (.int (((counts l).map J).length : Nat)) := fun o => by
      show (pref 4 _ _).bind _ = _
      rw [hpref]; rfl
    rw [xseq_of (show xsetattr 0 [110] (pv 6) (fr (.str (leadT l)) (r.length + 1) 0 n' t' y) (AO.inst [([114, 97, 119], .str (leadT l))] :: (r ++ [AO.list ((counts l).map J)])) = some (.next, fr (.str (leadT l)) (r.length + 1) 0 n' t' y, AO.inst [([110], J n'), ([114, 97, 119], .str (leadT l))] :: (r ++ [AO.list ((counts l).map J)])) from rfl)]
    rw [xseq_of (show xsetattr 0 [110, 116] (pv 7) (fr (.str (leadT l)) (r.length + 1) 0 n' t' y) (AO.inst [([110], J n'), ([114, 97, 119], .str (leadT l))] :: (r ++ [AO.list ((counts l).map J)])) = some (.next, fr (.str (leadT l)) (r.length + 1) 0 n' t' y, AO.inst [([110, 116], J t'), ([110], J n'), ([114, 97, 119], .str (leadT l))] :: (r ++ [AO.list ((counts l).map J)])) from rfl)]
    have e8 : xsetattr 0 [110, 111, 114, 109] (fun Γ σ => (pcons (fun Γ σ => (pref 4 Γ σ).bind fun l => some (V.tup l)) (pcons (pv 5) fun x x_1 => some []) Γ σ).bind fun l => if l.length ≤ lim then some (V.tup l) else none)
        (fr (.str (leadT l)) (r.length + 1) 0 n' t' y) (AO.inst [([110, 116], J t'), ([110], J n'), ([114, 97, 119], .str (leadT l))] :: (r ++ [AO.list ((counts l).map J)])) =
        some (.next, fr (.str (leadT l)) (r.length + 1) 0 n' t' y, AO.inst [([110, 111, 114, 109], .tup [.tup ((counts l).map J), J 0]), ([110, 116], J t'), ([110], J n'), ([114, 97, 119], .str (leadT l))] :: (r ++ [AO.list ((counts l).map J)])) := by
      unfold xsetattr
      rw [tup_of (l := [.tup ((counts l).map J), J 0]) (pcons_of (hp1 _) (pcons_of rfl rfl)) (by simp [lim])]
      rfl
    rw [xseq_of e8]
    have e9 : xsetattr 0 [105, 115, 95, 115, 105, 109, 112, 108, 101] (p2 (cmpI fun a b => decide (a ≤ b)) (fun Γ σ => (pref 4 Γ σ).bind fun l => some (V.int ↑l.length)) (pk (V.int 1)))
        (fr (.str (leadT l)) (r.length + 1) 0 n' t' y) (AO.inst [([110, 111, 114, 109], .tup [.tup ((counts l).map J), J 0]), ([110, 116], J t'), ([110], J n'), ([114, 97, 119], .str (leadT l))] :: (r ++ [AO.list ((counts l).map J)])) =
        some (.next, fr (.str (leadT l)) (r.length + 1) 0 n' t' y, AO.inst [([105, 115, 95, 115, 105, 109, 112, 108, 101], .bool (decide ((((counts l).map J).length : Int) ≤ 1))), ([110, 111, 114, 109], .tup [.tup ((counts l).map J), J 0]), ([110, 116], J t'), ([110], J n'), ([114, 97, 119], .str (leadT l))] :: (r ++ [AO.list ((counts l).map J)])) := by
      unfold xsetattr
      rw [p2_of (a := .int (((counts l).map J).length : Nat)) (b := .int 1) (hp2 _) rfl]
      rfl
    rw [xseq_of e9]
    exact ⟨_, _, _, rfl, rfl, rfl⟩
  obtain ⟨Γ, fs, rest, e1, e2, e3⟩ := hg
  unfold wsV
  rw [e1]
  show (if (fs.lookup equalChars).isNone = true then (fs.lookup normChars).map V.ws else none) = _
  rw [if_pos e2, e3]
  rfl
end Mine
/-! part 57 -/
namespace Mine
open PySem PySem.Calls PyProof.Rows
noncomputable def addL : List Nat → List Nat → List Nat
  | [], y => y
  | a :: x, [] => a :: x
  | a :: x, b :: y => (a + b) :: addL x y
theorem poly_add (w : Nat) : ∀ x y, poly w (addL x y) = poly w x + poly w y
  | [], y => by simp [addL, poly]
  | a :: x, [] => by simp [addL, poly]
  | a :: x, b :: y => by
    rw [addL, poly, poly, poly, poly_add w x y, Nat.mul_add]; (first | lia | omega)
theorem poly_map (w k : Nat) : ∀ x, poly w (x.map fun a => k * a) = k * poly w x
  | [] => by simp [poly]
  | a :: x => by
    rw [List.map_cons, poly, poly, poly_map w k x, Nat.mul_add, Nat.mul_left_comm]
/-- the product's figures, none carried -/
noncomputable def conv : List Nat → List Nat → List Nat
  | [], _ => []
  | [a], y => y.map fun b => a * b
  | a :: x, y => addL (y.map fun b => a * b) (0 :: conv x y)
theorem poly_conv (w : Nat) (y : List Nat) : ∀ x, poly w (conv x y) = poly w x * poly w y
  | [] => by simp [conv, poly]
  | [a] => by rw [conv, poly_map]; simp [poly]
  | a :: b :: x => by
    rw [show conv (a :: b :: x) y = addL (y.map fun b => a * b) (0 :: conv (b :: x) y) from rfl, poly_add, poly_map, poly, poly_conv w y (b :: x)]
    rw [show poly w (a :: b :: x) = a + 2 ^ w * poly w (b :: x) from rfl, Nat.add_mul, Nat.zero_add, Nat.mul_assoc]
theorem digs_of (w : Nat) : ∀ l : List Nat, (∀ d ∈ l, d < 2 ^ w) → digs w l.length (poly w l) = l
  | [], _ => rfl
  | d :: l, h => by
    have h1 := h d (.head _)
    rw [List.length_cons, digs, poly, Nat.add_mul_mod_self_left, Nat.mod_eq_of_lt h1, Nat.add_mul_div_left _ _ (Nat.two_pow_pos w), Nat.div_eq_of_lt h1, Nat.zero_add, digs_of w l fun x hx => h x (.tail _ hx)]
theorem poly_ge (w : Nat) : ∀ (l : List Nat) (d : Nat), 2 ^ (w * l.length) * d ≤ poly w (l ++ [d])
  | [], d => by simp [poly]
  | e :: l, d => by
    have := poly_ge w l d
    rw [List.cons_append, poly, List.length_cons, Nat.mul_succ, Nat.pow_add, Nat.mul_comm (2 ^ (w * l.length)), Nat.mul_assoc]
    exact Nat.le_trans (Nat.mul_le_mul_left _ this) (Nat.le_add_left ..)
theorem figs_of {w : Nat} (hw : 1 ≤ w) {l : List Nat} {d : Nat} (hd : 1 ≤ d) (h : ∀ x ∈ l ++ [d], x < 2 ^ w) : figs w (poly w (l ++ [d])) = l.length + 1 := by
  have h1 := poly_lt w _ h
  have h2 : 2 ^ (w * l.length) ≤ poly w (l ++ [d]) := Nat.le_trans (Nat.le_mul_of_pos_right _ hd) (poly_ge w l d)
  have h3 : bitsN (poly w (l ++ [d])) ≤ w * (l.length + 1) := by
    have := bits_le h1
    simpa using this
  have h4 : w * l.length + 1 ≤ bitsN (poly w (l ++ [d])) := by
    have hp := bits_lt (poly w (l ++ [d]))
    have : 2 ^ (w * l.length) < 2 ^ bitsN (poly w (l ++ [d])) := Nat.lt_of_le_of_lt h2 hp
    exact (Nat.pow_lt_pow_iff_right (by decide)).mp this
  unfold figs
  rw [Nat.mul_succ] at h3
  apply Nat.div_eq_of_lt_le
  · rw [Nat.mul_comm, Nat.mul_succ]; (first | lia | omega)
  · rw [Nat.mul_comm, Nat.mul_succ, Nat.mul_succ]; (first | lia | omega)
/-! lists told by their numbers -/
noncomputable def hist : List Nat → Nat
  | [] => 0
  | x :: l => 2 ^ (8 * x) + hist l
noncomputable def last1 (l : List Nat) : Bool := match l.getLast? with | some d => decide (1 ≤ d) | none => false
theorem last1_of {l : List Nat} (h : last1 l = true) : ∃ m d, l = m ++ [d] ∧ 1 ≤ d := by
  unfold last1 at h
  split at h
  · rename_i d hd
    obtain ⟨m, e⟩ := List.getLast?_eq_some_iff.mp hd
    exact ⟨m, d, e, of_decide_eq_true h⟩
  · cases h
theorem last1_app {m : List Nat} {d : Nat} (h : 1 ≤ d) : last1 (m ++ [d]) = true := by
  unfold last1; simp [h]
theorem figs_last {w : Nat} (hw : 1 ≤ w) {l : List Nat} (h1 : last1 l = true) (h : ∀ x ∈ l, x < 2 ^ w) : figs w (poly w l) = l.length := by
  obtain ⟨m, d, rfl, hd⟩ := last1_of h1
  rw [figs_of hw hd h, List.length_append]; rfl
theorem uniq {x y : List Nat} (hx : ∀ d ∈ x, d < 256) (hy : ∀ d ∈ y, d < 256) (lx : last1 x = true) (ly : last1 y = true) (h : poly 8 x = poly 8 y) : x = y := by
  have h1 := figs_last (w := 8) (by decide) lx hx
  have h2 := figs_last (w := 8) (by decide) ly hy
  rw [h] at h1
  have h3 := digs_of 8 x hx
  have h4 := digs_of 8 y hy
  rw [h, ← h1] at h3
  rw [← h2] at h4
  exact h3.symm.trans h4
theorem poly_set (w : Nat) : ∀ (l : List Nat) (b v : Nat), b < l.length → poly w (l.set b (l.getD b 0 + v)) = poly w l + v * 2 ^ (w * b)
  | [], b, v, h => by simp at h
  | d :: l, 0, v, h => by
    show d + v + 2 ^ w * poly w l = d + 2 ^ w * poly w l + v * 2 ^ (w * 0)
    simp; (first | lia | omega)
  | d :: l, b + 1, v, h => by
    show d + 2 ^ w * poly w (l.set b (l.getD b 0 + v)) = d + 2 ^ w * poly w l + v * 2 ^ (w * (b + 1))
    rw [poly_set w l b v (by simpa using h), Nat.mul_succ, Nat.pow_add, Nat.mul_add, Nat.mul_comm (2 ^ (w * b)), Nat.mul_left_comm]
    (first | lia | omega)
theorem poly_zeros (w : Nat) (c : List Nat) : ∀ k, poly w (c ++ List.replicate k 0) = poly w c := by
  intro k
  rw [poly_append]
  have : ∀ k, poly w (List.replicate k 0) = 0 := by
    intro k
    induction k with
    | zero => rfl
    | succ k ih => rw [List.replicate_succ, poly, ih]; rfl
  rw [this]; rfl
theorem poly_grow (w : Nat) (c : List Nat) (b : Nat) : poly w (grow c b) = poly w c := by
  unfold grow
  split
  · exact poly_zeros ..
  · rfl
theorem poly_upd (c : List Nat) (b : Nat) : poly 8 (upd c b) = poly 8 c + 2 ^ (8 * b) := by
  unfold upd
  rw [poly_set 8 _ _ _ (grow_len c b), poly_grow, Nat.one_mul]
theorem poly_fold : ∀ (l c : List Nat), poly 8 (l.foldl upd c) = poly 8 c + hist l
  | [], c => rfl
  | b :: l, c => by rw [List.foldl_cons, poly_fold l, poly_upd, hist]; (first | lia | omega)
theorem poly_counts (l : List Nat) : poly 8 (counts l) = hist l := by
  unfold counts; rw [poly_fold]; simp [poly]
theorem mem_grow {c : List Nat} {b x : Nat} (h : x ∈ grow c b) : x ∈ c ∨ x = 0 := by
  unfold grow at h
  split at h
  · rcases List.mem_append.mp h with h | h
    · exact .inl h
    · exact .inr (List.eq_of_mem_replicate h)
  · exact .inl h
theorem upd_le {c : List Nat} {b k : Nat} (h : ∀ x ∈ c, x ≤ k) : ∀ x ∈ upd c b, x ≤ k + 1 := by
  have hg : ∀ x ∈ grow c b, x ≤ k := fun x hx => by
    rcases mem_grow hx with hx | rfl
    · exact h x hx
    · exact Nat.zero_le _
  intro x hx
  rcases List.mem_or_eq_of_mem_set hx with hx | rfl
  · have := hg x hx; (first | lia | omega)
  · have hl := grow_len c b
    rw [List.getD_eq_getElem?_getD, List.getElem?_eq_getElem hl]
    have := hg _ (List.getElem_mem hl)
    show (grow c b)[b] + 1 ≤ k + 1
    (first | lia | omega)
theorem fold_le : ∀ (l c : List Nat) (k : Nat), (∀ x ∈ c, x ≤ k) → ∀ x ∈ l.foldl upd c, x ≤ k + l.length
  | [], c, k, h => h
  | b :: l, c, k, h => fun x hx => by
    have := fold_le l (upd c b) (k + 1) (upd_le h) x hx
    simp; (first | lia | omega)
theorem counts_le (l : List Nat) : ∀ x ∈ counts l, x ≤ l.length := fun x hx => by
  have := fold_le l [] 0 (fun x h => by cases h) x hx
  (first | lia | omega)
theorem last1_iff (l : List Nat) : last1 l = true ↔ 1 ≤ l.getLast?.getD 0 := by
  unfold last1
  cases h : l.getLast? with
  | none => simp
  | some d => simp
theorem upd_last {c : List Nat} {b : Nat} (h : c = [] ∨ last1 c = true) : last1 (upd c b) = true := by
  have hl := grow_len c b
  rw [last1_iff, List.getLast?_eq_getElem?]
  unfold upd
  rw [List.length_set, List.getElem?_set]
  by_cases e : b = (grow c b).length - 1
  · rw [if_pos e, if_pos (by (first | lia | omega))]
    show 1 ≤ _ + 1
    (first | lia | omega)
  · rw [if_neg e]
    have hg : grow c b = c := by
      unfold grow at e ⊢
      split
      · rename_i hle
        rw [if_pos hle] at e
        exact absurd (by simp; (first | lia | omega)) e
      · rfl
    rw [hg] at hl ⊢
    rcases h with rfl | h
    · simp at hl
    · rw [last1_iff, List.getLast?_eq_getElem?] at h
      exact h
theorem counts_last {l : List Nat} (h : l ≠ []) : last1 (counts l) = true := by
  have key : ∀ (l c : List Nat), last1 c = true → last1 (l.foldl upd c) = true := by
    intro l
    induction l with
    | nil => intro c h; exact h
    | cons b l ih => intro c h; exact ih _ (upd_last (.inr h))
  cases l with
  | nil => exact absurd rfl h
  | cons b l => exact key l _ (upd_last (.inl rfl))
/-- the counts from m up -/
noncomputable def sh : Nat → Nat → List Nat → List Nat
  | _, 0, _ => []
  | m, n + 1, l => l.count m :: sh (m + 1) n l
theorem sh_eq (l : List Nat) : ∀ n m, sh m n l = (List.range n).map fun k => l.count (m + k)
  | 0, m => rfl
  | n + 1, m => by
    rw [sh, sh_eq l n (m + 1), List.range_succ_eq_map, List.map_cons, List.map_map]
    congr 1
    apply List.map_congr_left
    intro k _
    show l.count (m + 1 + k) = l.count (m + (k + 1))
    congr 1; (first | lia | omega)
theorem sh_cons (x : Nat) (l : List Nat) : ∀ n m, m ≤ x → x < m + n → poly 8 (sh m n (x :: l)) * 2 ^ (8 * m) = 2 ^ (8 * x) + poly 8 (sh m n l) * 2 ^ (8 * m)
  | 0, m, h1, h2 => absurd h2 (by (first | lia | omega))
  | n + 1, m, h1, h2 => by
    have e8 : 2 ^ 8 * 2 ^ (8 * m) = 2 ^ (8 * (m + 1)) := by rw [← Nat.pow_add]; congr 1; (first | lia | omega)
    have r : ∀ (d q : Nat), (d + 2 ^ 8 * q) * 2 ^ (8 * m) = d * 2 ^ (8 * m) + q * 2 ^ (8 * (m + 1)) := fun d q => by
      rw [Nat.add_mul, ← e8, Nat.mul_comm (2 ^ 8) q, Nat.mul_assoc]
    show (((x :: l).count m) + 2 ^ 8 * poly 8 (sh (m + 1) n (x :: l))) * 2 ^ (8 * m) = 2 ^ (8 * x) + (l.count m + 2 ^ 8 * poly 8 (sh (m + 1) n l)) * 2 ^ (8 * m)
    rw [r, r]
    by_cases e : x = m
    · subst e
      have same : ∀ n k, x < k → sh k n (x :: l) = sh k n l := by
        intro n
        induction n with
        | zero => intro k _; rfl
        | succ n ih =>
          intro k hk
          rw [sh, sh, ih (k + 1) (by (first | lia | omega)), List.count_cons_of_ne (by (first | lia | omega))]
      rw [same n (x + 1) (by (first | lia | omega)), List.count_cons_self, Nat.add_mul, Nat.one_mul]
      (first | lia | omega)
    · rw [sh_cons x l n (m + 1) (by (first | lia | omega)) (by (first | lia | omega)), List.count_cons_of_ne e]
      (first | lia | omega)
theorem sh_hist (m n : Nat) : ∀ l : List Nat, (∀ x ∈ l, m ≤ x ∧ x < m + n) → poly 8 (sh m n l) * 2 ^ (8 * m) = hist l
  | [], _ => by
    have : ∀ n m, poly 8 (sh m n []) = 0 := by
      intro n
      induction n with
      | zero => intro m; rfl
      | succ n ih => intro m; rw [sh, poly, ih]; rfl
    rw [this]; simp [hist]
  | x :: l, h => by
    have h1 := h x (.head _)
    rw [sh_cons x l n m h1.1 h1.2, sh_hist m n l fun y hy => h y (.tail _ hy), hist]
theorem le_maxN {l : List Nat} {x : Nat} (h : x ∈ l) : x ≤ maxN l := by
  have key : ∀ (l : List Nat) (m x : Nat), x ∈ l → x ≤ l.foldl max m := by
    intro l
    induction l with
    | nil => intro m x h; cases h
    | cons a l ih =>
      intro m x h
      rcases List.mem_cons.mp h with rfl | h
      · exact Nat.le_trans (Nat.le_max_right m x) (foldl_max_ge l _)
      · exact ih _ _ h
  cases l with
  | nil => cases h
  | cons a l =>
    rcases List.mem_cons.mp h with rfl | h
    · exact foldl_max_ge l _
    · exact key l a x h
theorem minN_le {l : List Nat} {x : Nat} (h : x ∈ l) : minN l ≤ x := by
  have key : ∀ (l : List Nat) (m x : Nat), x ∈ l → l.foldl min m ≤ x := by
    intro l
    induction l with
    | nil => intro m x h; cases h
    | cons a l ih =>
      intro m x h
      rcases List.mem_cons.mp h with rfl | h
      · exact Nat.le_trans (foldl_min_le l _) (Nat.min_le_right m x)
      · exact ih _ _ h
  cases l with
  | nil => cases h
  | cons a l =>
    rcases List.mem_cons.mp h with rfl | h
    · exact foldl_min_le l _
    · exact key l a x h
theorem maxN_mem {l : List Nat} (h : l ≠ []) : maxN l ∈ l := by
  have key : ∀ (l : List Nat) (m : Nat), l.foldl max m = m ∨ l.foldl max m ∈ l := by
    intro l
    induction l with
    | nil => intro m; exact .inl rfl
    | cons a l ih =>
      intro m
      rcases ih (max m a) with e | e
      · rw [List.foldl_cons, e]
        by_cases hm : a ≤ m
        · exact .inl (by (first | lia | omega))
        · exact .inr (by rw [show max m a = a by (first | lia | omega)]; exact .head _)
      · exact .inr (.tail _ e)
  cases l with
  | nil => exact absurd rfl h
  | cons a l =>
    rcases key l a with e | e
    · show l.foldl max a ∈ _
      rw [e]; exact .head _
    · exact .tail _ e
theorem shares_hist (l : List Nat) : poly 8 (shares l) * 2 ^ (8 * minN l) = hist l := by
  have e : shares l = sh (minN l) (maxN l + 1 - minN l) l := by rw [sh_eq]; rfl
  rw [e]
  have := min_le_max l
  exact sh_hist _ _ l fun x hx => ⟨minN_le hx, by have := le_maxN hx; (first | lia | omega)⟩
theorem shares_le (l : List Nat) : ∀ x ∈ shares l, x ≤ l.length := fun x hx => by
  obtain ⟨k, _, rfl⟩ := List.mem_map.mp hx
  exact List.count_le_length
theorem shares_last {l : List Nat} (h : l ≠ []) : last1 (shares l) = true := by
  have hm := min_le_max l
  unfold shares
  rw [show maxN l + 1 - minN l = (maxN l - minN l) + 1 by (first | lia | omega), List.range_succ, List.map_append]
  refine last1_app ?_
  show 1 ≤ l.count (minN l + (maxN l - minN l))
  rw [show minN l + (maxN l - minN l) = maxN l by (first | lia | omega)]
  exact List.count_pos_iff.mpr (maxN_mem h)
theorem hist_append : ∀ a b, hist (a ++ b) = hist a + hist b
  | [], b => by simp [hist]
  | x :: a, b => by rw [List.cons_append, hist, hist, hist_append a b]; (first | lia | omega)
theorem hist_sizes (a b c : Nat) : ∀ hs, hist (sizesN a b c hs) = hist [a, b, c] * hist hs
  | [] => rfl
  | h :: hs => by
    have e : sizesN a b c (h :: hs) = [a + h, b + h, c + h] ++ sizesN a b c hs := rfl
    rw [e, hist_append, hist_sizes a b c hs, hist, Nat.mul_add]
    congr 1
    simp only [hist, Nat.mul_add, Nat.pow_add, Nat.add_mul, Nat.zero_mul, Nat.add_zero]
/-! what the law asks of dots and hours, in numbers -/
noncomputable def turnN (hs : List Nat) : List Nat := hs.map fun h => minN hs + maxN hs - h
noncomputable def imageN (s : List Nat) : List Nat := s.map fun x => minN s + maxN s - x
noncomputable def halfN (s : List Nat) : List Nat := pairsN 9 fun i k => dist (s.getD i 0) (s.getD k 0)
noncomputable def half9 : List Nat → List Nat
  | [s0, s1, s2, s3, s4, s5, s6, s7, s8] => [dist s1 s0, dist s2 s0, dist s2 s1, dist s3 s0, dist s3 s1, dist s3 s2, dist s4 s0, dist s4 s1, dist s4 s2, dist s4 s3, dist s5 s0, dist s5 s1, dist s5 s2, dist s5 s3, dist s5 s4,
     dist s6 s0, dist s6 s1, dist s6 s2, dist s6 s3, dist s6 s4, dist s6 s5, dist s7 s0, dist s7 s1, dist s7 s2, dist s7 s3, dist s7 s4, dist s7 s5, dist s7 s6,
     dist s8 s0, dist s8 s1, dist s8 s2, dist s8 s3, dist s8 s4, dist s8 s5, dist s8 s6, dist s8 s7]
  | _ => []
noncomputable def csOf (A : List Nat) : List Nat := match A.drop (A.length / 2) with
  | m :: r => (m - 9) / 2 :: r
  | [] => []
noncomputable def autoN (l : List Nat) : List Nat := conv l l.reverse
noncomputable def mirror (c : List Nat) : List Nat := c.tail.reverse ++ [9 + 2 * c.headD 0] ++ c.tail
end Mine
/-! part 58 -/
namespace Mine
open PySem PySem.Calls PyProof.Rows
noncomputable def shapeT : List (List Nat) := [[3], [1, 2], [2, 1], [1, 1, 1], [2, 0, 1], [1, 0, 2], [1, 0, 0, 2], [2, 0, 0, 1], [1, 1, 0, 1], [1, 0, 1, 1]]
noncomputable def idxT : List Nat := [0, 2, 4, 7, 2, 1, 3, 8, 4, 3, 5, 9, 7, 8, 9, 6, 2, 1, 3, 8, 1, 0, 2, 4, 3, 2, 1, 3, 8, 4, 3, 5, 4, 3, 5, 9, 3, 2, 1, 3, 5, 1, 0, 2, 9, 3, 2, 1, 7, 8, 9, 6, 8, 4, 3, 5, 9, 3, 2, 1, 6, 5, 1, 0]
noncomputable def valT : List (List Nat) := [[36, 4626, 4626, 594441, 1179666, 1179666, 301989906, 301989906, 151587081, 151587081], [4626, 267276, 267276, 34148871, 67767816, 67767816, 17347906056, 17347906056, 8707968261, 8707968261], [4626, 267276, 267276, 34148871, 67767816, 67767816, 17347906056, 17347906056, 8707968261, 8707968261], [594441, 34148871, 34148871, 4362735621, 8657767941, 8657767941, 2216304380931, 2216304380931, 1112497851651, 1112497851651], [1179666, 67767816, 67767816, 8657767941, 17181179916, 17181179916, 4398214939656, 4398214939656, 2207731353861, 2207731353861], [1179666, 67767816, 67767816, 8657767941, 17181179916, 17181179916, 4398214939656, 4398214939656, 2207731353861, 2207731353861], [301989906, 17347906056, 17347906056, 2216304380931, 4398214939656, 4398214939656, 1125900242386956, 1125900242386956, 565157751621381, 565157751621381], [301989906, 17347906056, 17347906056, 2216304380931, 4398214939656, 4398214939656, 1125900242386956, 1125900242386956, 565157751621381, 565157751621381], [151587081, 8707968261, 8707968261, 1112497851651, 2207731353861, 2207731353861, 565157751621381, 565157751621381, 283687019678211, 283687019678211], [151587081, 8707968261, 8707968261, 1112497851651, 2207731353861, 2207731353861, 565157751621381, 565157751621381, 283687019678211, 283687019678211]]
noncomputable def keyT : List Nat := [3, 513, 513, 66048, 131073, 131073, 33554433, 33554433, 16843008, 16843008]
noncomputable def shp (i : Nat) : List Nat := shapeT.getD i []
noncomputable def idx (x y z : Nat) : Nat := idxT.getD (16 * x + 4 * y + z) 0
noncomputable def val (i j : Nat) : Nat := (valT.getD i []).getD j 0
noncomputable def key (i : Nat) : Nat := keyT.getD i 0
noncomputable def ten : List Nat := [0, 1, 2, 3, 4, 5, 6, 7, 8, 9]
noncomputable def few (l : List Nat) : Bool := l.all (fun x => decide (x < 128)) && last1 l
noncomputable def chkS (i j : Nat) : Bool :=
  few (conv (shp i) (shp j)) && (few (conv (shp i) (shp j).reverse) && (few (autoN (conv (shp i) (shp j).reverse)) && (few (csOf (autoN (conv (shp i) (shp j).reverse))) &&
  ((autoN (conv (shp i) (shp j).reverse) == mirror (csOf (autoN (conv (shp i) (shp j).reverse)))) && ((csOf (autoN (conv (shp i) (shp j).reverse))).length == (conv (shp i) (shp j).reverse).length &&
  (poly 8 (csOf (autoN (conv (shp i) (shp j).reverse))) == val i j && (decide ((conv (shp i) (shp j)).length ≤ 7) && (decide ((conv (shp i) (shp j).reverse).length ≤ 7) &&
  ((key i == key j) == (shp i == shp j || shp i == (shp j).reverse))))))))))
noncomputable def chkD (o x y z : Nat) : Bool :=
  decide (idx x y z < 10) && (shares [x + o, y + o, z + o] == shp (idx x y z) && (shares (turnN [x + o, y + o, z + o]) == (shp (idx x y z)).reverse && (hist [dist (y + o) (x + o), dist (z + o) (x + o), dist (z + o) (y + o)] == key (idx x y z) &&
  ((hist [x + o, y + o, z + o] == hist (turnN [x + o, y + o, z + o])) == (shp (idx x y z) == (shp (idx x y z)).reverse)))))
theorem tabS_0 : (ten.all fun j => chkS 0 j) = true := by decide +kernel
theorem tabS_1 : (ten.all fun j => chkS 1 j) = true := by decide +kernel
theorem tabS_2 : (ten.all fun j => chkS 2 j) = true := by decide +kernel
theorem tabS_3 : (ten.all fun j => chkS 3 j) = true := by decide +kernel
theorem tabS_4 : (ten.all fun j => chkS 4 j) = true := by decide +kernel
theorem tabS_5 : (ten.all fun j => chkS 5 j) = true := by decide +kernel
theorem tabS_6 : (ten.all fun j => chkS 6 j) = true := by decide +kernel
theorem tabS_7 : (ten.all fun j => chkS 7 j) = true := by decide +kernel
theorem tabS_8 : (ten.all fun j => chkS 8 j) = true := by decide +kernel
theorem tabS_9 : (ten.all fun j => chkS 9 j) = true := by decide +kernel
theorem tabD_0_0 : ([0, 1, 2, 3].all fun y => [0, 1, 2, 3].all fun z => chkD 0 0 y z) = true := by decide +kernel
theorem tabD_0_1 : ([0, 1, 2, 3].all fun y => [0, 1, 2, 3].all fun z => chkD 0 1 y z) = true := by decide +kernel
theorem tabD_0_2 : ([0, 1, 2, 3].all fun y => [0, 1, 2, 3].all fun z => chkD 0 2 y z) = true := by decide +kernel
theorem tabD_0_3 : ([0, 1, 2, 3].all fun y => [0, 1, 2, 3].all fun z => chkD 0 3 y z) = true := by decide +kernel
theorem tabD_1_0 : ([0, 1, 2, 3].all fun y => [0, 1, 2, 3].all fun z => chkD 1 0 y z) = true := by decide +kernel
theorem tabD_1_1 : ([0, 1, 2, 3].all fun y => [0, 1, 2, 3].all fun z => chkD 1 1 y z) = true := by decide +kernel
theorem tabD_1_2 : ([0, 1, 2, 3].all fun y => [0, 1, 2, 3].all fun z => chkD 1 2 y z) = true := by decide +kernel
theorem tabD_1_3 : ([0, 1, 2, 3].all fun y => [0, 1, 2, 3].all fun z => chkD 1 3 y z) = true := by decide +kernel
noncomputable def chkH (a b c p q r : Nat) : Bool := hist (half9 (sizesN (a + 1) (b + 1) (c + 1) [p, q, r])) == val (idx a b c) (idx p q r)
theorem tabH_0_0 : ([0, 1, 2, 3].all fun c => [0, 1, 2, 3].all fun p => [0, 1, 2, 3].all fun q => [0, 1, 2, 3].all fun r => chkH 0 0 c p q r) = true := by decide +kernel
theorem tabH_0_1 : ([0, 1, 2, 3].all fun c => [0, 1, 2, 3].all fun p => [0, 1, 2, 3].all fun q => [0, 1, 2, 3].all fun r => chkH 0 1 c p q r) = true := by decide +kernel
theorem tabH_0_2 : ([0, 1, 2, 3].all fun c => [0, 1, 2, 3].all fun p => [0, 1, 2, 3].all fun q => [0, 1, 2, 3].all fun r => chkH 0 2 c p q r) = true := by decide +kernel
theorem tabH_0_3 : ([0, 1, 2, 3].all fun c => [0, 1, 2, 3].all fun p => [0, 1, 2, 3].all fun q => [0, 1, 2, 3].all fun r => chkH 0 3 c p q r) = true := by decide +kernel
theorem tabH_1_0 : ([0, 1, 2, 3].all fun c => [0, 1, 2, 3].all fun p => [0, 1, 2, 3].all fun q => [0, 1, 2, 3].all fun r => chkH 1 0 c p q r) = true := by decide +kernel
theorem tabH_1_1 : ([0, 1, 2, 3].all fun c => [0, 1, 2, 3].all fun p => [0, 1, 2, 3].all fun q => [0, 1, 2, 3].all fun r => chkH 1 1 c p q r) = true := by decide +kernel
theorem tabH_1_2 : ([0, 1, 2, 3].all fun c => [0, 1, 2, 3].all fun p => [0, 1, 2, 3].all fun q => [0, 1, 2, 3].all fun r => chkH 1 2 c p q r) = true := by decide +kernel
theorem tabH_1_3 : ([0, 1, 2, 3].all fun c => [0, 1, 2, 3].all fun p => [0, 1, 2, 3].all fun q => [0, 1, 2, 3].all fun r => chkH 1 3 c p q r) = true := by decide +kernel
theorem tabH_2_0 : ([0, 1, 2, 3].all fun c => [0, 1, 2, 3].all fun p => [0, 1, 2, 3].all fun q => [0, 1, 2, 3].all fun r => chkH 2 0 c p q r) = true := by decide +kernel
theorem tabH_2_1 : ([0, 1, 2, 3].all fun c => [0, 1, 2, 3].all fun p => [0, 1, 2, 3].all fun q => [0, 1, 2, 3].all fun r => chkH 2 1 c p q r) = true := by decide +kernel
theorem tabH_2_2 : ([0, 1, 2, 3].all fun c => [0, 1, 2, 3].all fun p => [0, 1, 2, 3].all fun q => [0, 1, 2, 3].all fun r => chkH 2 2 c p q r) = true := by decide +kernel
theorem tabH_2_3 : ([0, 1, 2, 3].all fun c => [0, 1, 2, 3].all fun p => [0, 1, 2, 3].all fun q => [0, 1, 2, 3].all fun r => chkH 2 3 c p q r) = true := by decide +kernel
theorem tabH_3_0 : ([0, 1, 2, 3].all fun c => [0, 1, 2, 3].all fun p => [0, 1, 2, 3].all fun q => [0, 1, 2, 3].all fun r => chkH 3 0 c p q r) = true := by decide +kernel
theorem tabH_3_1 : ([0, 1, 2, 3].all fun c => [0, 1, 2, 3].all fun p => [0, 1, 2, 3].all fun q => [0, 1, 2, 3].all fun r => chkH 3 1 c p q r) = true := by decide +kernel
theorem tabH_3_2 : ([0, 1, 2, 3].all fun c => [0, 1, 2, 3].all fun p => [0, 1, 2, 3].all fun q => [0, 1, 2, 3].all fun r => chkH 3 2 c p q r) = true := by decide +kernel
theorem tabH_3_3 : ([0, 1, 2, 3].all fun c => [0, 1, 2, 3].all fun p => [0, 1, 2, 3].all fun q => [0, 1, 2, 3].all fun r => chkH 3 3 c p q r) = true := by decide +kernel
theorem all_of {α : Type} {l : List α} {f : α → Bool} (h : l.all f = true) {x : α} (hx : x ∈ l) : f x = true := List.all_eq_true.mp h x hx
theorem four {x : Nat} (h : x < 4) : x ∈ [0, 1, 2, 3] := by
  simp only [List.mem_cons, List.not_mem_nil, or_false]; (first | lia | omega)
theorem ten_of {x : Nat} (h : x < 10) : x ∈ ten := by
  simp only [ten, List.mem_cons, List.not_mem_nil, or_false]; (first | lia | omega)
theorem shapes_ok {i j : Nat} (hi : i < 10) (hj : j < 10) : chkS i j = true :=
  match i, hi with
  | 0, _ => all_of tabS_0 (ten_of hj)
  | 1, _ => all_of tabS_1 (ten_of hj)
  | 2, _ => all_of tabS_2 (ten_of hj)
  | 3, _ => all_of tabS_3 (ten_of hj)
  | 4, _ => all_of tabS_4 (ten_of hj)
  | 5, _ => all_of tabS_5 (ten_of hj)
  | 6, _ => all_of tabS_6 (ten_of hj)
  | 7, _ => all_of tabS_7 (ten_of hj)
  | 8, _ => all_of tabS_8 (ten_of hj)
  | 9, _ => all_of tabS_9 (ten_of hj)
  | n + 10, h => absurd h (by (first | lia | omega))
theorem dots0_ok {x y z : Nat} (hx : x < 4) (hy : y < 4) (hz : z < 4) : chkD 0 x y z = true :=
  match x, hx with
  | 0, _ => all_of (all_of tabD_0_0 (four hy)) (four hz)
  | 1, _ => all_of (all_of tabD_0_1 (four hy)) (four hz)
  | 2, _ => all_of (all_of tabD_0_2 (four hy)) (four hz)
  | 3, _ => all_of (all_of tabD_0_3 (four hy)) (four hz)
  | n + 4, h => absurd h (by (first | lia | omega))
theorem dots1_ok {x y z : Nat} (hx : x < 4) (hy : y < 4) (hz : z < 4) : chkD 1 x y z = true :=
  match x, hx with
  | 0, _ => all_of (all_of tabD_1_0 (four hy)) (four hz)
  | 1, _ => all_of (all_of tabD_1_1 (four hy)) (four hz)
  | 2, _ => all_of (all_of tabD_1_2 (four hy)) (four hz)
  | 3, _ => all_of (all_of tabD_1_3 (four hy)) (four hz)
  | n + 4, h => absurd h (by (first | lia | omega))
theorem half_ok {a b c p q r : Nat} (ha : a < 4) (hb : b < 4) (hc : c < 4) (hp : p < 4) (hq : q < 4) (hr : r < 4) : chkH a b c p q r = true :=
  match a, b, ha, hb with
  | 0, 0, _, _ => all_of (all_of (all_of (all_of tabH_0_0 (four hc)) (four hp)) (four hq)) (four hr)
  | 0, 1, _, _ => all_of (all_of (all_of (all_of tabH_0_1 (four hc)) (four hp)) (four hq)) (four hr)
  | 0, 2, _, _ => all_of (all_of (all_of (all_of tabH_0_2 (four hc)) (four hp)) (four hq)) (four hr)
  | 0, 3, _, _ => all_of (all_of (all_of (all_of tabH_0_3 (four hc)) (four hp)) (four hq)) (four hr)
  | 1, 0, _, _ => all_of (all_of (all_of (all_of tabH_1_0 (four hc)) (four hp)) (four hq)) (four hr)
  | 1, 1, _, _ => all_of (all_of (all_of (all_of tabH_1_1 (four hc)) (four hp)) (four hq)) (four hr)
  | 1, 2, _, _ => all_of (all_of (all_of (all_of tabH_1_2 (four hc)) (four hp)) (four hq)) (four hr)
  | 1, 3, _, _ => all_of (all_of (all_of (all_of tabH_1_3 (four hc)) (four hp)) (four hq)) (four hr)
  | 2, 0, _, _ => all_of (all_of (all_of (all_of tabH_2_0 (four hc)) (four hp)) (four hq)) (four hr)
  | 2, 1, _, _ => all_of (all_of (all_of (all_of tabH_2_1 (four hc)) (four hp)) (four hq)) (four hr)
  | 2, 2, _, _ => all_of (all_of (all_of (all_of tabH_2_2 (four hc)) (four hp)) (four hq)) (four hr)
  | 2, 3, _, _ => all_of (all_of (all_of (all_of tabH_2_3 (four hc)) (four hp)) (four hq)) (four hr)
  | 3, 0, _, _ => all_of (all_of (all_of (all_of tabH_3_0 (four hc)) (four hp)) (four hq)) (four hr)
  | 3, 1, _, _ => all_of (all_of (all_of (all_of tabH_3_1 (four hc)) (four hp)) (four hq)) (four hr)
  | 3, 2, _, _ => all_of (all_of (all_of (all_of tabH_3_2 (four hc)) (four hp)) (four hq)) (four hr)
  | 3, 3, _, _ => all_of (all_of (all_of (all_of tabH_3_3 (four hc)) (four hp)) (four hq)) (four hr)
  | n + 4, _, h, _ => absurd h (by (first | lia | omega))
  | _, n + 4, _, h => absurd h (by (first | lia | omega))
end Mine
/-! part 59 -/
namespace Mine
open PySem PySem.Calls PyProof.Rows
theorem minN_mem {l : List Nat} (h : l ≠ []) : minN l ∈ l := by
  have key : ∀ (l : List Nat) (m : Nat), l.foldl min m = m ∨ l.foldl min m ∈ l := by
    intro l
    induction l with
    | nil => intro m; exact .inl rfl
    | cons a l ih =>
      intro m
      rcases ih (min m a) with e | e
      · rw [List.foldl_cons, e]
        by_cases hm : m ≤ a
        · exact .inl (by (first | lia | omega))
        · exact .inr (by rw [show min m a = a by (first | lia | omega)]; exact .head _)
      · exact .inr (.tail _ e)
  cases l with
  | nil => exact absurd rfl h
  | cons a l =>
    rcases key l a with e | e
    · show l.foldl min a ∈ _
      rw [e]; exact .head _
    · exact .tail _ e
theorem minN_eq {l : List Nat} {m : Nat} (h1 : m ∈ l) (h2 : ∀ x ∈ l, m ≤ x) : minN l = m := Nat.le_antisymm (minN_le h1) (h2 _ (minN_mem (List.ne_nil_of_mem h1)))
theorem maxN_eq {l : List Nat} {m : Nat} (h1 : m ∈ l) (h2 : ∀ x ∈ l, x ≤ m) : maxN l = m := Nat.le_antisymm (h2 _ (maxN_mem (List.ne_nil_of_mem h1))) (le_maxN h1)
theorem mem_sizes {a b c x : Nat} {hs : List Nat} : x ∈ sizesN a b c hs ↔ ∃ d ∈ [a, b, c], ∃ h ∈ hs, x = d + h := by
  unfold sizesN
  rw [List.mem_flatMap]
  constructor
  · rintro ⟨h, hh, hx⟩
    simp only [List.mem_cons, List.not_mem_nil, or_false] at hx
    rcases hx with rfl | rfl | rfl
    · exact ⟨a, by simp, h, hh, rfl⟩
    · exact ⟨b, by simp, h, hh, rfl⟩
    · exact ⟨c, by simp, h, hh, rfl⟩
  · rintro ⟨d, hd, h, hh, rfl⟩
    refine ⟨h, hh, ?_⟩
    simp only [List.mem_cons, List.not_mem_nil, or_false] at hd ⊢
    rcases hd with rfl | rfl | rfl <;> simp
theorem min_sizes {a b c : Nat} {hs : List Nat} (h : hs ≠ []) : minN (sizesN a b c hs) = minN [a, b, c] + minN hs :=
  minN_eq (mem_sizes.mpr ⟨_, minN_mem (by simp), _, minN_mem h, rfl⟩) fun x hx => by
    obtain ⟨d, hd, k, hk, rfl⟩ := mem_sizes.mp hx
    have := minN_le hd
    have := minN_le hk
    (first | lia | omega)
theorem max_sizes {a b c : Nat} {hs : List Nat} (h : hs ≠ []) : maxN (sizesN a b c hs) = maxN [a, b, c] + maxN hs :=
  maxN_eq (mem_sizes.mpr ⟨_, maxN_mem (by simp), _, maxN_mem h, rfl⟩) fun x hx => by
    obtain ⟨d, hd, k, hk, rfl⟩ := mem_sizes.mp hx
    have := le_maxN hd
    have := le_maxN hk
    (first | lia | omega)
theorem image_sizes {a b c K L : Nat} (ha : a ≤ K) (hb : b ≤ K) (hc : c ≤ K) : ∀ hs : List Nat, (∀ h ∈ hs, h ≤ L) → (sizesN a b c hs).map (fun x => K + L - x) = sizesN (K - a) (K - b) (K - c) (hs.map fun h => L - h)
  | [], _ => rfl
  | h :: hs, hh => by
    have h0 := hh h (.head _)
    have e : sizesN a b c (h :: hs) = [a + h, b + h, c + h] ++ sizesN a b c hs := rfl
    have e2 : sizesN (K - a) (K - b) (K - c) ((h :: hs).map fun h => L - h) = [K - a + (L - h), K - b + (L - h), K - c + (L - h)] ++ sizesN (K - a) (K - b) (K - c) (hs.map fun h => L - h) := rfl
    rw [e, List.map_append, image_sizes ha hb hc hs fun x hx => hh x (.tail _ hx), e2]
    congr 1
    show [K + L - (a + h), K + L - (b + h), K + L - (c + h)] = _
    rw [show K + L - (a + h) = K - a + (L - h) by (first | lia | omega), show K + L - (b + h) = K - b + (L - h) by (first | lia | omega), show K + L - (c + h) = K - c + (L - h) by (first | lia | omega)]
theorem few_lt {l : List Nat} (h : few l = true) : ∀ x ∈ l, x < 128 := fun x hx => by
  unfold few at h
  rw [Bool.and_eq_true] at h
  exact of_decide_eq_true (List.all_eq_true.mp h.1 x hx)
theorem few_last {l : List Nat} (h : few l = true) : last1 l = true := by
  unfold few at h
  rw [Bool.and_eq_true] at h
  exact h.2
theorem conv_of {D H s x y : List Nat} (hs : s ≠ []) (h9 : s.length ≤ 9) (hh : hist s = hist D * hist H) (hm : minN s = minN D + minN H) (hx : shares D = x) (hy : shares H = y) (hf : few (conv x y) = true) : shares s = conv x y := by
  refine uniq (fun d hd => ?_) (fun d hd => by have := few_lt hf d hd; (first | lia | omega)) (shares_last hs) (few_last hf) ?_
  · have := shares_le s d hd; (first | lia | omega)
  · have h1 := shares_hist s
    have h2 := shares_hist D
    have h3 := shares_hist H
    rw [hx] at h2
    rw [hy] at h3
    rw [hh, ← h2, ← h3, hm, Nat.mul_add, Nat.pow_add] at h1
    rw [poly_conv]
    refine Nat.eq_of_mul_eq_mul_right (Nat.mul_pos (Nat.two_pow_pos (8 * minN D)) (Nat.two_pow_pos (8 * minN H))) ?_
    rw [h1]
    simp only [Nat.mul_assoc, Nat.mul_left_comm (2 ^ (8 * minN D))]
theorem counts_eq {s t : List Nat} (h1 : s ≠ []) (h2 : t ≠ []) (h3 : s.length < 256) (h4 : t.length < 256) : (counts s == counts t) = (hist s == hist t) := by
  rw [Bool.eq_iff_iff, beq_iff_eq, beq_iff_eq]
  constructor
  · intro h
    rw [← poly_counts, ← poly_counts, h]
  · intro h
    refine uniq (fun d hd => ?_) (fun d hd => ?_) (counts_last h1) (counts_last h2) (by rw [poly_counts, poly_counts, h])
    · have := counts_le s d hd; (first | lia | omega)
    · have := counts_le t d hd; (first | lia | omega)
theorem hist_pos {l : List Nat} (h : l ≠ []) : 0 < hist l := by
  cases l with
  | nil => exact absurd rfl h
  | cons x l => rw [hist]; have := Nat.two_pow_pos (8 * x); (first | lia | omega)
theorem beq_mul {a b c : Nat} (h : 0 < a) : (a * b == a * c) = (b == c) := by
  rw [Bool.eq_iff_iff, beq_iff_eq, beq_iff_eq]
  exact ⟨fun e => Nat.eq_of_mul_eq_mul_left h e, fun e => by rw [e]⟩
theorem beq_mul' {a b c : Nat} (h : 0 < a) : (b * a == c * a) = (b == c) := by rw [Nat.mul_comm b, Nat.mul_comm c, beq_mul h]
/-- what dots and hours, drawn so, give -/
structure Facts (a b c p q r : Nat) : Prop where
  first : shares (sizesN a b c [p, q, r]) = conv (shares [a, b, c]) (shares [p, q, r])
  second : shares (sizesN a b c (turnN [p, q, r])) = conv (shares [a, b, c]) (shares [p, q, r]).reverse
  auto : autoN (shares (sizesN a b c (turnN [p, q, r]))) = mirror (counts (halfN (sizesN a b c [p, q, r])))
  clen : (counts (halfN (sizesN a b c [p, q, r]))).length = (shares (sizesN a b c (turnN [p, q, r]))).length
  few1 : few (shares (sizesN a b c [p, q, r])) = true
  few2 : few (shares (sizesN a b c (turnN [p, q, r]))) = true
  few3 : few (autoN (shares (sizesN a b c (turnN [p, q, r])))) = true
  len1 : (shares (sizesN a b c [p, q, r])).length ≤ 7
  len2 : (shares (sizesN a b c (turnN [p, q, r]))).length ≤ 7
  own : (counts (sizesN a b c [p, q, r]) == counts (sizesN a b c (turnN [p, q, r]))) = (shares [p, q, r] == (shares [p, q, r]).reverse)
  image : (counts (imageN (sizesN a b c [p, q, r])) == counts (sizesN a b c (turnN [p, q, r]))) = (shares [a, b, c] == (shares [a, b, c]).reverse)
  three : (counts [dist b a, dist c a, dist c b] == counts [dist q p, dist r p, dist r q]) = (shares [a, b, c] == shares [p, q, r] || shares [a, b, c] == (shares [p, q, r]).reverse)
theorem facts {x y z p q r : Nat} (hx : x < 4) (hy : y < 4) (hz : z < 4) (hp : p < 4) (hq : q < 4) (hr : r < 4) : Facts (x + 1) (y + 1) (z + 1) p q r := by
  have d1 := dots1_ok hx hy hz
  have d0 := dots0_ok hp hq hr
  have hh := half_ok hx hy hz hp hq hr
  unfold chkD at d1 d0
  unfold chkH at hh
  simp only [Bool.and_eq_true, beq_iff_eq, decide_eq_true_eq, Nat.add_zero] at d1 d0 hh
  obtain ⟨i10, i1, i2, i3, i4⟩ := d1
  obtain ⟨j10, j1, j2, j3, j4⟩ := d0
  have sk := shapes_ok i10 j10
  generalize idx x y z = i at *
  generalize idx p q r = j at *
  unfold chkS at sk
  simp only [Bool.and_eq_true, beq_iff_eq, decide_eq_true_eq] at sk
  obtain ⟨s1, s2, s3, s4, s5, s6, s7, s8, s9, s10⟩ := sk
  have tne : turnN [p, q, r] ≠ [] := by simp [turnN]
  have l9 : ∀ hs : List Nat, hs.length = 3 → (sizesN (x + 1) (y + 1) (z + 1) hs).length ≤ 9 := fun hs h => by rw [sizes_len, h]; decide
  have n9 : ∀ a b c (hs : List Nat), hs.length = 3 → sizesN a b c hs ≠ [] := fun a b c hs h e => by
    have := sizes_len a b c hs
    rw [e, h] at this; cases this
  have tl : (turnN [p, q, r]).length = 3 := rfl
  have f1 : shares (sizesN (x + 1) (y + 1) (z + 1) [p, q, r]) = conv (shp i) (shp j) := conv_of (n9 _ _ _ _ rfl) (l9 _ rfl) (hist_sizes ..) (min_sizes (by simp)) i1 j1 s1
  have f2 : shares (sizesN (x + 1) (y + 1) (z + 1) (turnN [p, q, r])) = conv (shp i) (shp j).reverse := conv_of (n9 _ _ _ _ tl) (l9 _ tl) (hist_sizes ..) (min_sizes tne) i1 j2 s2
  have h36 : halfN (sizesN (x + 1) (y + 1) (z + 1) [p, q, r]) = half9 (sizesN (x + 1) (y + 1) (z + 1) [p, q, r]) := rfl
  have hl36 : (halfN (sizesN (x + 1) (y + 1) (z + 1) [p, q, r])).length = 36 := rfl
  have f3 : counts (halfN (sizesN (x + 1) (y + 1) (z + 1) [p, q, r])) = csOf (autoN (conv (shp i) (shp j).reverse)) := by
    refine uniq (fun d hd => ?_) (fun d hd => ?_) (counts_last (fun e => by rw [e] at hl36; cases hl36)) (few_last s4) ?_
    · have := counts_le _ d hd
      rw [hl36] at this; (first | lia | omega)
    · have := few_lt s4 d hd; (first | lia | omega)
    · rw [poly_counts, h36, hh, s7]
  exact {
    first := by rw [f1, i1, j1]
    second := by rw [f2, i1, j1]
    auto := by rw [f2, f3]; exact s5
    clen := by rw [f2, f3]; exact s6
    few1 := by rw [f1]; exact s1
    few2 := by rw [f2]; exact s2
    few3 := by rw [f2]; exact s3
    len1 := by rw [f1]; exact s8
    len2 := by rw [f2]; exact s9
    own := by
      rw [counts_eq (n9 _ _ _ _ rfl) (n9 _ _ _ _ tl) (Nat.lt_of_le_of_lt (l9 _ rfl) (by decide)) (Nat.lt_of_le_of_lt (l9 _ tl) (by decide)), hist_sizes, hist_sizes, beq_mul (hist_pos (by simp)), j1]
      exact j4
    image := by
      have e : imageN (sizesN (x + 1) (y + 1) (z + 1) [p, q, r]) = sizesN (minN [x + 1, y + 1, z + 1] + maxN [x + 1, y + 1, z + 1] - (x + 1)) (minN [x + 1, y + 1, z + 1] + maxN [x + 1, y + 1, z + 1] - (y + 1)) (minN [x + 1, y + 1, z + 1] + maxN [x + 1, y + 1, z + 1] - (z + 1)) (turnN [p, q, r]) := by
        have m1 : ∀ d ∈ [x + 1, y + 1, z + 1], d ≤ minN [x + 1, y + 1, z + 1] + maxN [x + 1, y + 1, z + 1] := fun d hd => Nat.le_trans (le_maxN hd) (Nat.le_add_left ..)
        have m2 : ∀ h ∈ [p, q, r], h ≤ minN [p, q, r] + maxN [p, q, r] := fun d hd => Nat.le_trans (le_maxN hd) (Nat.le_add_left ..)
        have := image_sizes (m1 (x + 1) (by simp)) (m1 (y + 1) (by simp)) (m1 (z + 1) (by simp)) [p, q, r] m2
        unfold imageN
        rw [min_sizes (by simp), max_sizes (by simp)]
        refine Eq.trans ?_ this
        apply List.map_congr_left
        intro k _
        (first | lia | omega)
      have e2 : hist [minN [x + 1, y + 1, z + 1] + maxN [x + 1, y + 1, z + 1] - (x + 1), minN [x + 1, y + 1, z + 1] + maxN [x + 1, y + 1, z + 1] - (y + 1), minN [x + 1, y + 1, z + 1] + maxN [x + 1, y + 1, z + 1] - (z + 1)] = hist (turnN [x + 1, y + 1, z + 1]) := rfl
      rw [e, counts_eq (n9 _ _ _ _ tl) (n9 _ _ _ _ tl) (by rw [sizes_len, tl]; decide) (by rw [sizes_len, tl]; decide), hist_sizes, hist_sizes, beq_mul' (hist_pos tne), i1, e2]
      rw [← i4, Bool.eq_iff_iff, beq_iff_eq, beq_iff_eq]
      exact ⟨fun h => h.symm, fun h => h.symm⟩
    three := by
      rw [counts_eq (by simp) (by simp) (by simp) (by simp), i3, j3, i1, j1]
      exact s10 }
end Mine
/-! part 60 -/
namespace Mine
open PySem PySem.Calls PyProof.Rows
/-- a run that says True -/
noncomputable def Ends (f : S) (Γ : Cx) : Prop := ∃ Γ' σ', f Γ [] = some (.ret (.bool true), Γ', σ')
theorem ends_set {i : Nat} {f : E} {g : S} {Γ : Cx} (v : V) (h : f Γ [] = some v) (k : Ends g (Γ.set i (.val v))) : Ends (xseq (xset i f) g) Γ := by
  obtain ⟨Γ', σ', e⟩ := k
  exact ⟨Γ', σ', by rw [xseq_of (xset_of h), e]⟩
theorem ends_if {t : Et} {f g : S} {Γ : Cx} (h : t Γ [] = some false) (k : Ends g Γ) : Ends (xseq (xif t f xnext) g) Γ := by
  obtain ⟨Γ', σ', e⟩ := k
  refine ⟨Γ', σ', ?_⟩
  rw [xseq_of (show xif t f xnext Γ [] = some (.next, Γ, []) by rw [xif_false h]; rfl), e]
theorem ends_ret {f : E} {g : S} {Γ : Cx} (h : f Γ [] = some (.bool true)) : Ends (xseq (xret f) g) Γ := ⟨_, _, ret_of h⟩
theorem list_of {f : El} {Γ : Cx} {σ : AH} {l : List V} (h : f Γ σ = some l) : (fun Γ σ => Option.map V.list (f Γ σ) : E) Γ σ = some (.list l) := by
  show Option.map V.list (f Γ σ) = _
  rw [h]; rfl
theorem range_of {f : E} {Γ : Cx} {σ : AH} {n : Nat} (hn : n ≤ 1000000) (hf : f Γ σ = some (J n)) :
    (fun Γ σ => (f Γ σ).bind fun v => match v with | .int b => if okR 0 b = true then some (rng 0 b) else none | _ => none : El) Γ σ = some ((List.range n).map J) := by
  show (f Γ σ).bind _ = _
  rw [hf]
  show (if okR 0 (n : Int) = true then some (rng 0 (n : Int)) else none) = _
  rw [okR_0 hn, if_pos rfl, rng_0]
theorem part_of {f : E} {Γ : Cx} {σ : AH} {n : Nat} (hf : f Γ σ = some (J n)) : ppart f Γ σ = some (some (n : Int)) := by
  unfold ppart; rw [hf]; rfl
theorem psl_drop {α : Type} (k : Nat) (l : List α) : psl (some (k : Int)) none l = l.drop k := by
  unfold psl PySem.W.kms_lo PySem.W.kms_hi
  simp only []
  rw [if_neg (by (first | lia | omega))]
  by_cases h : k ≤ l.length
  · rw [show min (k : Int).toNat l.length = k by (first | lia | omega)]
    exact List.take_of_length_le (by simp)
  · rw [show min (k : Int).toNat l.length = l.length by (first | lia | omega), List.drop_of_length_le (by (first | lia | omega)), List.drop_of_length_le (by (first | lia | omega))]
    simp
theorem slice_to {x g : E} {Γ : Cx} {l : List V} {k : Nat} (h : x Γ [] = some (.list l)) (hg : g Γ [] = some (J k)) : psliceL (pl x) (fun x x_1 => some none) (ppart g) Γ [] = some (l.take k) := by
  unfold psliceL
  rw [pl_of h, part_of hg]
  simp only [Option.bind_some, psl_take]
theorem slice_from {x g : E} {Γ : Cx} {l : List V} {k : Nat} (h : x Γ [] = some (.list l)) (hg : g Γ [] = some (J k)) : psliceL (pl x) (ppart g) (fun x x_1 => some none) Γ [] = some (l.drop k) := by
  unfold psliceL
  rw [pl_of h, part_of hg]
  simp only [Option.bind_some, psl_drop]
theorem rev_of {x : E} {Γ : Cx} {l : List V} (h : x Γ [] = some (.list l)) : (fun Γ σ => (pl x Γ σ).bind fun l => (p1 (int1 fun a => some (V.int (-a))) (pk (V.int 1)) Γ σ).bind fun i => match i with | .int i => if i = -1 then some l.reverse else none | _ => none : El) Γ [] = some l.reverse := by
  show (pl x Γ []).bind _ = _
  rw [pl_of h]
  rfl
theorem mod_J {a b : Nat} (h : 0 < b) : int2 (fun a b => if b ≠ 0 then some (.int (a.fmod b)) else none) (J a) (J b) = some (J (a % b)) := by
  show (if (b : Int) ≠ 0 then some (V.int ((a : Int).fmod (b : Int))) else none) = _
  rw [if_pos (by (first | lia | omega))]
  show _ = some (V.int (((a % b : Nat)) : Int))
  rw [Int.natCast_emod, Int.fmod_eq_emod_of_nonneg _ (by (first | lia | omega))]
/-! equality of values -/
theorem alleq_self {f : V → V → Bool} : ∀ l : List V, (∀ x ∈ l, f x x = true) → alleq f l l = true
  | [], _ => rfl
  | x :: l, h => by
    show (f x x && alleq f l l) = true
    rw [h x (.head _), alleq_self l fun y hy => h y (.tail _ hy)]; rfl
theorem veq_self : ∀ (k : Nat) (x : V), lev k x = true → veq k x x = true := by
  intro k
  induction k with
  | zero =>
    intro x h
    cases x with
    | none => rfl
    | bool b => exact beq_self_eq_true b
    | int i => exact beq_self_eq_true i
    | str s => exact beq_self_eq_true s
    | list l => exact (lev_zero_list h).elim
    | tup l => exact (lev_zero_tup h).elim
    | ws p => exact (lev_ws h).elim
  | succ k ih =>
    intro x h
    cases x with
    | none => rfl
    | bool b => exact beq_self_eq_true b
    | int i => exact beq_self_eq_true i
    | str s => exact beq_self_eq_true s
    | list l => exact alleq_self l fun y hy => ih y (List.all_eq_true.mp h y hy)
    | tup l => exact alleq_self l fun y hy => ih y (List.all_eq_true.mp h y hy)
    | ws p => exact (lev_ws h).elim
theorem ne_self {x : V} (h : lev 4 x = true) : neV x x = some (.bool false) := by
  unfold neV
  rw [h, Bool.and_self, if_pos rfl, veq_self 4 x h]
  rfl
theorem lev_strs {k : Nat} {l : List V} (h : ∀ x ∈ l, ∃ s, x = .str s) : lev (k + 1) (.list l) = true := by
  show l.all (lev k) = true
  rw [List.all_eq_true]
  intro x hx
  obtain ⟨s, rfl⟩ := h x hx
  cases k <;> rfl
theorem lev_tups (k : Nat) (l : List Nat) : lev (k + 2) (.tup [.tup (l.map J), J 0]) = true := by
  have h := lev_ints k l
  show ([V.tup (l.map J), J 0].all (lev (k + 1))) = true
  simp only [List.all_cons, List.all_nil, Bool.and_true, Bool.and_eq_true]
  exact ⟨h, rfl⟩
theorem eq_norm (x y : List Nat) : eqV (.tup [.tup (x.map J), J 0]) (.tup [.tup (y.map J), J 0]) = some (.bool (x == y)) := by
  unfold eqV
  rw [lev_tups, lev_tups, Bool.and_self, if_pos rfl]
  show some (V.bool (alleq (veq 2) (x.map J) (y.map J) && (veq 3 (J 0) (J 0) && true))) = _
  rw [veq_int, alleq_ints]
  simp
theorem equal_of (x y : List Nat) : w_equal.1 [.ws (.tup [.tup (x.map J), J 0]), .ws (.tup [.tup (y.map J), J 0])] = some (.bool (x == y)) := by
  unfold w_equal
  dsimp only
  rw [pfn_ret [.val (.ws (.tup [.tup (x.map J), J 0])), .val (.ws (.tup [.tup (y.map J), J 0]))]]
  rotate_left
  · rfl
  · rfl
  exact (p2_of (a := .tup [.tup (x.map J), J 0]) (b := .tup [.tup (y.map J), J 0]) ((p1_of (a := .ws (.tup [.tup (x.map J), J 0])) rfl).trans rfl) ((p1_of (a := .ws (.tup [.tup (y.map J), J 0])) rfl).trans rfl)).trans (eq_norm x y)
theorem add_L {f g : El} {Γ : Cx} {σ : AH} {a b : List V} (hf : f Γ σ = some a) (hg : g Γ σ = some b) (h : a.length + b.length ≤ 1000) : p2l f g paddL Γ σ = some (a ++ b) := by
  unfold p2l
  rw [hf, Option.bind_some, hg, Option.bind_some]
  unfold paddL
  rw [if_pos (by rw [List.length_append]; unfold lim; (first | lia | omega))]
theorem join_of {α : Type} (f : α → List Nat) (l : List α) (h : okS (l.map f).flatten = true) : joinV (.str []) [.list (l.map fun a => V.str (f a))] = some (.str (l.map f).flatten) := by
  show (strsOf (l.map fun a => V.str (f a))).bind (fun ns => if okS ns.flatten then some (V.str ns.flatten) else none) = _
  rw [strs_of, Option.bind_some, if_pos h]
theorem len_list (l : List V) : lenV (.list l) = some (J l.length) := rfl
theorem len_D (n : Nat) : lenV (D n) = some (J n) := by
  show some (V.int ((List.replicate n 46).length : Nat)) = _
  rw [List.length_replicate]
end Mine
/-! part 61 -/
namespace Mine
open PySem PySem.Calls PyProof.Rows
noncomputable def endT (i : Nat) : List Nat := ends.getD i []
theorem endT_mem {i : Nat} (h : i < 3) : endT i ∈ ends := by
  match i, h with
  | 0, _ => decide
  | 1, _ => decide
  | 2, _ => decide
noncomputable abbrev U : Sl := .undef
theorem okS_mail {a b c : Nat} {e f g : List Nat} (ha : a ≤ 7) (hb : b ≤ 7) (hc : c ≤ 7) (he : e ∈ ends) (hf : f ∈ ends) (hg : g ∈ ends) : okS (mailT a b c e f g) = true := by
  have l1 := ends_len he
  have l2 := ends_len hf
  have l3 := ends_len hg
  have hs : ∀ e ∈ ends, ∀ x ∈ e, x < 128 := by decide
  refine okS_iff.mpr ⟨by simp [mailT, row, lim]; (first | lia | omega), fun x hx => ?_⟩
  simp only [mailT, row, List.mem_append, List.mem_replicate] at hx
  rcases hx with (hx | hx) | (hx | hx) | hx | hx
  · (first | lia | omega)
  · exact hs e he x hx
  · (first | lia | omega)
  · exact hs f hf x hx
  · (first | lia | omega)
  · exact hs g hg x hx
theorem posts_get {a b c n h : Nat} (hh : h < n) : (postsV a b c n)[h]? = some (.str (rowsT (a + h) (b + h) (c + h))) := by
  unfold postsV
  rw [List.getElem?_map, List.getElem?_range hh]
  rfl
theorem pairsN_map {α β : Type} (f : α → β) (n : Nat) (o : Nat → Nat → α) : (pairsN n o).map f = pairsN n fun i k => f (o i k) := by
  unfold pairsN
  rw [List.map_flatMap]
  congr 1
  funext i
  rw [List.map_map]
  rfl
theorem row_D {s : List Nat} {i : Nat} (hi : i < s.length) (h9 : i ≤ 1000) : itemV (.list (s.map D)) (J i) = some (D (s.getD i 0)) := by
  rw [itemV, pix_nat _ _ (by (first | lia | omega)), List.getElem?_map, List.getElem?_eq_getElem hi, List.getD_eq_getElem?_getD, List.getElem?_eq_getElem hi]
  rfl
theorem sum_twice (l : List Nat) : (l.map fun n => 2 * n).sum = 2 * l.sum := by
  induction l with
  | nil => rfl
  | cons a l ih => rw [List.map_cons, List.sum_cons, List.sum_cons, ih]; (first | lia | omega)
theorem abs_dist (a b : Nat) : fn1 (int1 fun a => some (V.int (if a < 0 then -a else a))) [.int ((a : Int) - (b : Int))] = some (J (dist a b)) := by
  show some (V.int (if (a : Int) - (b : Int) < 0 then -((a : Int) - (b : Int)) else (a : Int) - (b : Int))) = some (V.int ((dist a b : Nat) : Int))
  congr 2
  unfold dist
  split <;> (first | lia | omega)
theorem sum_le {l : List Nat} {m : Nat} (h : ∀ x ∈ l, x ≤ m) : l.sum ≤ m * l.length := by
  induction l with
  | nil => exact Nat.zero_le _
  | cons a l ih =>
    have := h a (.head _)
    have := ih fun x hx => h x (.tail _ hx)
    rw [List.sum_cons, List.length_cons, Nat.mul_succ]; (first | lia | omega)
theorem lead_of {f : E} {Γ : Cx} {σ : AH} {l : List Nat} (h : f Γ σ = some (N l)) (hl : l.sum + l.length ≤ 1000) : pcall w_law_lead.val (pcons f fun x x_1 => some []) Γ σ = some (.str (leadT l)) :=
  (pcall_of (l := [N l]) (pcons_of h rfl)).trans (lead_ok hl)
theorem min2_int (a b : Int) : fn2 (int2 fun a b => some (V.int (if b < a then b else a))) [.int a, .int b] = some (.int (if b < a then b else a)) := rfl
theorem lev_vints (l : List Int) (k : Nat) : lev (k + 1) (.list (l.map V.int)) = true := by
  show (l.map V.int).all (lev k) = true
  rw [List.all_eq_true]
  intro x hx
  obtain ⟨i, _, rfl⟩ := List.mem_map.mp hx
  cases k <;> rfl
theorem add_c {c n : Nat} (h : n ≤ 100) : addV (.str [c]) (D n) = some (.str ([c] ++ List.replicate n 46)) := add_str _ _ (by simp [lim]; (first | lia | omega))
theorem add_cd {c d n : Nat} (h : n ≤ 100) : addV (.str ([c] ++ List.replicate n 46)) (.str [d]) = some (.str ([c] ++ List.replicate n 46 ++ [d])) := add_str _ _ (by simp [lim]; (first | lia | omega))
theorem lens_of {f : El} {g : E} {Γ : Cx} {σ : AH} {l : List Nat} (hf : f Γ σ = some (l.map D)) (h : l.length ≤ 1000) (hg : ∀ n, g [.val (D n)] [] = some (D n)) : pcomp 0 1 [] f (pone (pcall (fn1 lenV) (pcons g fun x x_1 => some []))) Γ σ = some (l.map J) :=
  pcomp_one [U] D J hf rfl rfl (fun n _ => (pcall_of (l := [D n]) (pcons_of (hg n) rfl)).trans (len_D n)) (by unfold lim; (first | lia | omega))
theorem shares_of {f : E} {Γ : Cx} {σ : AH} {l : List Nat} (h : f Γ σ = some (N l)) (hl : l ≠ []) (h7 : ∀ n ∈ l, n ≤ 7) : pcall w_law_shares.val (pcons f fun x x_1 => some []) Γ σ = some (N (shares l)) :=
  (pcall_of (l := [N l]) (pcons_of h rfl)).trans (shares_ok hl (by have := h7 _ (maxN_mem hl); (first | lia | omega)))
theorem d2i_call {f g : E} {Γ : Cx} {σ : AH} {l : List Nat} {w : Nat} (hf : f Γ σ = some (N l)) (hg : g Γ σ = some (J w)) (h1 : ∀ d ∈ l, d < 128) (hw7 : 7 ≤ w) (hw : w ≤ 10) (hl : l.length ≤ 13) : pcall (pfn xs_D 2 fD) (pcons f (pcons g fun x x_1 => some [])) Γ σ = some (J (poly w l)) := by
  have h2 : 2 ^ 7 ≤ 2 ^ w := Nat.pow_le_pow_right (by decide) hw7
  have h3 : w * l.length ≤ 10 * 13 := Nat.mul_le_mul hw hl
  exact (pcall_of (l := [N l, J w]) (pcons_of hf (pcons_of hg rfl))).trans (d2i_of (fun d hd => by have := h1 d hd; (first | lia | omega)) (by (first | lia | omega)) (by (first | lia | omega)) (by (first | lia | omega)))
theorem ws_of {f : E} {Γ : Cx} {σ : AH} {l : List Nat} (h : f Γ σ = some (.str (leadT l))) (hl : l.sum + l.length ≤ 1000) : pcall (fn1 wsV) (pcons f fun x x_1 => some []) Γ σ = some (.ws (.tup [.tup ((counts l).map J), J 0])) :=
  (pcall_of (l := [.str (leadT l)]) (pcons_of h rfl)).trans (ws_ok hl)
theorem poly_rev_lt {w : Nat} {l : List Nat} (h1 : ∀ d ∈ l, d < 128) (hw7 : 7 ≤ w) (hw : w ≤ 10) (hl : l.length ≤ 9) : poly w l < 2 ^ 90 := by
  have h2 : 2 ^ 7 ≤ 2 ^ w := Nat.pow_le_pow_right (by decide) hw7
  have h3 : w * l.length ≤ 10 * 9 := Nat.mul_le_mul hw hl
  exact Nat.lt_of_lt_of_le (poly_lt w l fun d hd => by have := h1 d hd; (first | lia | omega)) (Nat.pow_le_pow_right (by decide) h3)
theorem rev_N {x : E} {Γ : Cx} {l : List Nat} (h : x Γ [] = some (N l)) : Option.map V.list ((pl x Γ []).bind fun l => (p1 (int1 fun a => some (V.int (-a))) (pk (V.int 1)) Γ []).bind fun i => match i with | .int i => if i = -1 then some l.reverse else none | _ => none) = some (N l.reverse) := by
  have e := rev_of h
  refine Eq.trans (congrArg (Option.map V.list) e) ?_
  rw [← List.map_reverse]
  rfl
theorem rev_L {x : E} {Γ : Cx} {l : List Nat} (h : x Γ [] = some (N l)) : ((pl x Γ []).bind fun l => (p1 (int1 fun a => some (V.int (-a))) (pk (V.int 1)) Γ []).bind fun i => match i with | .int i => if i = -1 then some l.reverse else none | _ => none) = some (l.reverse.map J) := by
  refine Eq.trans (rev_of h) ?_
  rw [← List.map_reverse]
theorem disp_L {f : El} {Γ : Cx} {σ : AH} {l : List V} (h : f Γ σ = some l) (hl : l.length ≤ lim) : Option.map V.list ((f Γ σ).bind fun l => if l.length ≤ lim then some l else none) = some (.list l) := by
  rw [h, Option.bind_some, if_pos hl]; rfl
theorem tupL_of {f : El} {Γ : Cx} {σ : AH} {l : List V} (h : f Γ σ = some l) : (fun Γ σ => (f Γ σ).bind fun l => some (V.tup l) : E) Γ σ = some (.tup l) := by
  show (f Γ σ).bind _ = _
  rw [h]; rfl
noncomputable abbrev nrm (x : List Nat) : V := .tup [.tup (x.map J), J 0]
theorem equal_call {f g : E} {Γ : Cx} {σ : AH} {x y : List Nat} (hf : f Γ σ = some (.ws (nrm x))) (hg : g Γ σ = some (.ws (nrm y))) : (fun Γ σ => (f Γ σ).bind fun a => match a with | .ws _ => (pcons g (fun x x_1 => some []) Γ σ).bind fun l => w_equal.1 (a :: l) | _ => none : E) Γ σ = some (.bool (x == y)) := by
  show (f Γ σ).bind _ = _
  rw [hf]
  show (pcons g (fun x x_1 => some []) Γ σ).bind (fun l => w_equal.1 (V.ws (nrm x) :: l)) = _
  rw [pcons_of hg rfl]
  exact equal_of x y
theorem por_of {f g : E} {Γ : Cx} {σ : AH} {a b : Bool} (hf : f Γ σ = some (.bool a)) (hg : g Γ σ = some (.bool b)) : por f g Γ σ = some (.bool (a || b)) := by
  unfold por
  rw [hf, Option.bind_some]
  cases a with
  | true => rfl
  | false => exact hg
theorem poly_pos {w : Nat} {l : List Nat} (h : last1 l = true) : 0 < poly w l := by
  obtain ⟨m, d, rfl, hd⟩ := last1_of h
  exact Nat.lt_of_lt_of_le (Nat.mul_pos (Nat.two_pow_pos (w * m.length)) hd) (poly_ge w m d)
theorem three_sum {a b c : Nat} (h1 : a ≤ 7) (h2 : b ≤ 7) (h3 : c ≤ 7) : [a, b, c].sum + [a, b, c].length ≤ 1000 := by
  simp; (first | lia | omega)
theorem dist_le {a b : Nat} (h1 : a ≤ 7) (h2 : b ≤ 7) : dist a b ≤ 7 := by unfold dist; (first | lia | omega)
theorem dist_add (a b c : Nat) : dist (a + c) (b + c) = dist a b := by unfold dist; (first | lia | omega)
theorem dist_add' (a b c : Nat) : dist (c + a) (c + b) = dist a b := by unfold dist; (first | lia | omega)
theorem low3 {x : Nat} (h : x < 4) : x ≤ 7 := by (first | lia | omega)
theorem low4 {x : Nat} (h : x < 4) : x + 1 ≤ 7 := by (first | lia | omega)
theorem one_four {x : Nat} (h : x < 4) : 1 ≤ x + 1 ∧ x + 1 ≤ 4 := by (first | lia | omega)
theorem low50 {x : Nat} (h : x < 4) : x + 1 ≤ 50 := by (first | lia | omega)
theorem law_core {ns : List Int} {A B C P Q R x y z p q r : Nat} (hN : w_law_numbers.1 [I ns] = some (N [A, B, C, P, Q, R])) (hx : A % 4 = x) (hy : B % 4 = y) (hz : C % 4 = z) (hp : P % 4 = p) (hq : Q % 4 = q) (hr : R % 4 = r) :
    Ends walk_law.1 [.val (I ns), U, U, U, U, U, U, U, U, U, U, U, U, U, U, U, U, U, U, U, U, U, U, U, U, U, U, U, U, U, U, U, U, U] := by
  have x4 : x < 4 := by (first | lia | omega)
  have y4 : y < 4 := by (first | lia | omega)
  have z4 : z < 4 := by (first | lia | omega)
  have p4 : p < 4 := by (first | lia | omega)
  have q4 : q < 4 := by (first | lia | omega)
  have r4 : r < 4 := by (first | lia | omega)
  have FC := facts x4 y4 z4 p4 q4 r4
  obtain ⟨e, he, hee⟩ : ∃ e, endT (A / 4 % 3) = e ∧ e ∈ ends := ⟨_, rfl, endT_mem (by (first | lia | omega))⟩
  obtain ⟨f, hf, hff⟩ : ∃ e, endT (B / 4 % 3) = e ∧ e ∈ ends := ⟨_, rfl, endT_mem (by (first | lia | omega))⟩
  obtain ⟨g, hg, hgg⟩ : ∃ e, endT (C / 4 % 3) = e ∧ e ∈ ends := ⟨_, rfl, endT_mem (by (first | lia | omega))⟩
  have hm : maxN [p, q, r] ≤ 3 := by
    have := maxN_mem (l := [p, q, r]) (by simp)
    simp only [List.mem_cons, List.not_mem_nil, or_false] at this
    (first | lia | omega)
  obtain ⟨s, hs⟩ : ∃ s, s = sizesN (x + 1) (y + 1) (z + 1) [p, q, r] := ⟨_, rfl⟩
  obtain ⟨t, ht⟩ : ∃ t, t = sizesN (x + 1) (y + 1) (z + 1) (turnN [p, q, r]) := ⟨_, rfl⟩
  have s9 : s.length = 9 := by rw [hs]; rfl
  have t9 : t.length = 9 := by rw [ht]; rfl
  have tle : ∀ h ∈ turnN [p, q, r], h ≤ maxN [p, q, r] := fun h hh => by
    obtain ⟨k, hk, rfl⟩ := List.mem_map.mp hh
    have := minN_le hk
    (first | lia | omega)
  have s7 : ∀ n ∈ s, n ≤ 7 := fun n hn => by
    rw [hs] at hn
    obtain ⟨d, hd, h, hh, rfl⟩ := mem_sizes.mp hn
    have := le_maxN hh
    simp only [List.mem_cons, List.not_mem_nil, or_false] at hd
    (first | lia | omega)
  have t7 : ∀ n ∈ t, n ≤ 7 := fun n hn => by
    rw [ht] at hn
    obtain ⟨d, hd, h, hh, rfl⟩ := mem_sizes.mp hn
    have := tle h hh
    simp only [List.mem_cons, List.not_mem_nil, or_false] at hd
    (first | lia | omega)
  have sD : ∀ i, i < 9 → s.getD i 0 ≤ 7 := fun i hi => by
    rw [List.getD_eq_getElem?_getD, List.getElem?_eq_getElem (by (first | lia | omega))]
    exact s7 _ (List.getElem_mem _)
  unfold walk_law
  dsimp only
  -- numbers
  refine ends_set (N [A, B, C, P, Q, R]) ((pcall_of (l := [I ns]) (pcons_of rfl rfl)).trans hN) ?_
  dsimp only [List.set_cons_succ, List.set_cons_zero]
  -- dots
  refine ends_set (N [x + 1, y + 1, z + 1]) ?_ ?_
  · refine list_of ((pcomp_one [U] J (fun v => J (v % 4 + 1)) (l := [A, B, C]) (pl_of (list_of (slice_to (l := [A, B, C, P, Q, R].map J) (k := 3) rfl rfl))) rfl rfl (fun v _ => ?_) (by simp [lim])).trans ?_)
    · exact (p2_of (a := J (v % 4)) (b := J 1) ((p2_of (a := J v) (b := J 4) rfl rfl).trans (mod_J (by decide))) rfl).trans (add_J _ _)
    · rw [← hx, ← hy, ← hz]; rfl
  dsimp only [List.set_cons_succ, List.set_cons_zero]
  -- hours
  refine ends_set (N [p, q, r]) ?_ ?_
  · refine list_of ((pcomp_one [U] J (fun v => J (v % 4)) (l := [P, Q, R]) (pl_of (list_of (slice_from (l := [A, B, C, P, Q, R].map J) (k := 3) rfl rfl))) rfl rfl (fun v _ => ?_) (by simp [lim])).trans ?_)
    · exact (p2_of (a := J v) (b := J 4) rfl rfl).trans (mod_J (by decide))
    · rw [← hp, ← hq, ← hr]; rfl
  dsimp only [List.set_cons_succ, List.set_cons_zero]
  clear hx hy hz hp hq hr hN
  -- turned
  refine ends_set (N (turnN [p, q, r])) ?_ ?_
  · refine list_of ((pcomp_one [U, .val (N [p, q, r])] J (fun v => J (minN [p, q, r] + maxN [p, q, r] - v)) (l := [p, q, r]) (pl_of rfl) rfl rfl (fun v hv => ?_) (by simp [lim])).trans ?_)
    · have h1 := le_maxN hv
      refine (p2_of (a := J (minN [p, q, r] + maxN [p, q, r])) (b := J v) ((p2_of (a := J (minN [p, q, r])) (b := J (maxN [p, q, r])) ((pcall_of (l := [N [p, q, r]]) (pcons_of rfl rfl)).trans ?_) ((pcall_of (l := [N [p, q, r]]) (pcons_of rfl rfl)).trans ?_)).trans (add_J _ _)) rfl).trans (sub_J (by (first | lia | omega)))
      · exact min_ok (l := [p, q, r]) (by simp)
      · exact max_ok (l := [p, q, r]) (by simp)
    · rfl
  dsimp only [List.set_cons_succ, List.set_cons_zero]
  -- ends
  refine ends_set (.list [.str e, .str f, .str g]) ?_ ?_
  · refine list_of ((pcomp_one [U] J (fun v => .str (endT (v / 4 % 3))) (l := [A, B, C]) (pl_of (list_of (slice_to (l := [A, B, C, P, Q, R].map J) (k := 3) rfl rfl))) rfl rfl (fun v _ => ?_) (by simp [lim])).trans ?_)
    · have h3 : v / 4 % 3 < 3 := by (first | lia | omega)
      refine pitemN_of (l := [.str [10], .str [13], .str [13, 10]]) (k := v / 4 % 3) (disp_of (pcons_of rfl (pcons_of rfl (pcons_of rfl rfl))) (by simp [lim])) ((p2_of (a := J (v / 4)) (b := J 3) ((p2_of (a := J v) (b := J 4) rfl rfl).trans (fdiv_J (by decide) (by decide +kernel))) rfl).trans (mod_J (by decide))) (by (first | lia | omega)) ?_
      generalize v / 4 % 3 = i at *
      match i, h3 with
      | 0, _ => rfl
      | 1, _ => rfl
      | 2, _ => rfl
    · rw [← he, ← hf, ← hg]; rfl
  dsimp only [List.set_cons_succ, List.set_cons_zero]
  -- posts
  refine ends_set (.list (postsV (x + 1) (y + 1) (z + 1) (maxN [p, q, r] + 1))) ?_ ?_
  · refine (pcall_of (l := [.str (mailT (x + 1) (y + 1) (z + 1) e f g), J (maxN [p, q, r])]) (pcons_of ?_ (pcons_of ((pcall_of (l := [N [p, q, r]]) (pcons_of rfl rfl)).trans (max_ok (l := [p, q, r]) (by simp))) rfl))).trans (posts_ok (one_four x4) (one_four y4) (one_four z4) hee hff hgg hm)
    have hok : okS ([0, 1, 2].map fun i => row ([x + 1, y + 1, z + 1].getD i 0) ([e, f, g].getD i [])).flatten = true := by
      have := okS_mail (a := x + 1) (b := y + 1) (c := z + 1) (low4 x4) (low4 y4) (low4 z4) hee hff hgg
      simpa [mailT] using this
    refine (pmeth_of (a := .str []) (l := [.list ([0, 1, 2].map fun i => .str (row ([x + 1, y + 1, z + 1].getD i 0) ([e, f, g].getD i [])))]) rfl (pcons_of ?_ rfl)).trans ?_
    · refine list_of (pcomp_one [U, .val (N [x + 1, y + 1, z + 1]), .val (.list [.str e, .str f, .str g])] J (fun i => .str (row ([x + 1, y + 1, z + 1].getD i 0) ([e, f, g].getD i []))) (l := [0, 1, 2]) (range_of (n := 3) (by decide) rfl) rfl rfl (fun i hi => ?_) (by simp [lim]))
      simp only [List.mem_cons, List.not_mem_nil, or_false] at hi
      have l1 := ends_len hee
      have l2 := ends_len hff
      have l3 := ends_len hgg
      refine (p2_of (a := .str (List.replicate ([x + 1, y + 1, z + 1].getD i 0) 46)) (b := .str ([e, f, g].getD i [])) ((p2_of (a := .str [46]) (b := J ([x + 1, y + 1, z + 1].getD i 0)) rfl ((p2_of (a := N [x + 1, y + 1, z + 1]) (b := J i) rfl rfl).trans (item_J (by (first | lia | omega)) ?_))).trans (mul_str 46 _ ?_)) ((p2_of (a := .list [.str e, .str f, .str g]) (b := J i) rfl rfl).trans ?_)).trans ((add_str _ _ ?_).trans rfl)
      · rcases hi with rfl | rfl | rfl <;> rfl
      · rcases hi with rfl | rfl | rfl <;> simp <;> (first | lia | omega)
      · rw [itemV, pix_nat _ _ (by (first | lia | omega))]
        rcases hi with rfl | rfl | rfl <;> rfl
      · unfold lim
        rcases hi with rfl | rfl | rfl <;> simp <;> (first | lia | omega)
    · refine (join_of (fun i => row ([x + 1, y + 1, z + 1].getD i 0) ([e, f, g].getD i [])) [0, 1, 2] hok).trans ?_
      simp [mailT]
  dsimp only [List.set_cons_succ, List.set_cons_zero]
  -- the posts are as they should be
  refine ends_if (test_of (v := .bool false) ?_ rfl) ?_
  · refine (p2_of (a := .list (postsV (x + 1) (y + 1) (z + 1) (maxN [p, q, r] + 1))) (b := .list (postsV (x + 1) (y + 1) (z + 1) (maxN [p, q, r] + 1))) rfl ?_).trans (ne_self (lev_strs fun v hv => ?_))
    · refine list_of (pcomp_one [U, .val (N [x + 1, y + 1, z + 1])] J (fun h => .str (rowsT (x + 1 + h) (y + 1 + h) (z + 1 + h))) (l := List.range (maxN [p, q, r] + 1)) (range_of (by (first | lia | omega)) ((p2_of (a := J (maxN [p, q, r])) (b := J 1) ((pcall_of (l := [N [p, q, r]]) (pcons_of rfl rfl)).trans (max_ok (l := [p, q, r]) (by simp))) rfl).trans (add_J _ _))) rfl rfl (fun h hh => ?_) (by rw [List.length_range]; unfold lim; (first | lia | omega)))
      have hh4 : h ≤ 3 := by have := List.mem_range.mp hh; (first | lia | omega)
      refine (pmeth_of (a := .str []) (l := [.list ([x + 1, y + 1, z + 1].map fun n => .str (row (n + h) [13, 10]))]) rfl (pcons_of ?_ rfl)).trans ?_
      · refine list_of (pcomp_one [U, .val (J h)] J (fun n => .str (row (n + h) [13, 10])) (l := [x + 1, y + 1, z + 1]) (pl_of rfl) rfl rfl (fun n hn => ?_) (by simp [lim]))
        simp only [List.mem_cons, List.not_mem_nil, or_false] at hn
        exact (p2_of (a := .str (List.replicate (n + h) 46)) (b := .str [13, 10]) ((p2_of (a := .str [46]) (b := J (n + h)) rfl ((p2_of (a := J n) (b := J h) rfl rfl).trans (add_J _ _))).trans (mul_str 46 _ (by (first | lia | omega)))) rfl).trans ((add_str _ _ (by simp [lim]; (first | lia | omega))).trans rfl)
      · have e9 : ([x + 1, y + 1, z + 1].map fun n => row (n + h) [13, 10]).flatten = rowsT (x + 1 + h) (y + 1 + h) (z + 1 + h) := by simp [rowsT, mailT]
        refine (join_of (fun n => row (n + h) [13, 10]) [x + 1, y + 1, z + 1] (by rw [e9]; exact okS_rows (by (first | lia | omega)) (by (first | lia | omega)) (by (first | lia | omega)))).trans ?_
        rw [e9]
    · obtain ⟨h, _, rfl⟩ := List.mem_map.mp hv
      exact ⟨_, rfl⟩
  -- the two crowds
  refine ends_set (.list (s.map D)) ?_ ?_
  · rw [hs]
    exact (pcall_of (l := [.list (postsV (x + 1) (y + 1) (z + 1) (maxN [p, q, r] + 1)), N [p, q, r]]) (pcons_of rfl (pcons_of rfl rfl))).trans (crowd_ok (low50 x4) (low50 y4) (low50 z4) (by simp) (fun h hh => by have := le_maxN hh; (first | lia | omega)) fun h hh => posts_get (by have := le_maxN hh; (first | lia | omega)))
  dsimp only [List.set_cons_succ, List.set_cons_zero]
  refine ends_set (.list (t.map D)) ?_ ?_
  · rw [ht]
    exact (pcall_of (l := [.list (postsV (x + 1) (y + 1) (z + 1) (maxN [p, q, r] + 1)), N (turnN [p, q, r])]) (pcons_of rfl (pcons_of rfl rfl))).trans (crowd_ok (low50 x4) (low50 y4) (low50 z4) (by simp [turnN]) (fun h hh => by have := tle h hh; (first | lia | omega)) fun h hh => posts_get (by have := tle h hh; (first | lia | omega)))
  dsimp only [List.set_cons_succ, List.set_cons_zero]
  -- the bound
  obtain ⟨k, hk⟩ : ∃ k, k = [A, B, C, P, Q, R].sum % 14 := ⟨_, rfl⟩
  have k14 : k < 14 := by rw [hk]; exact Nat.mod_lt _ (by decide)
  refine ends_set (.int ((k : Int) - 3)) ?_ ?_
  · refine (p2_of (a := J k) (b := .int 3) ((p2_of (a := J [A, B, C, P, Q, R].sum) (b := J 14) ((pcall_of (l := [N [A, B, C, P, Q, R]]) (pcons_of rfl rfl)).trans (sum_ok [A, B, C, P, Q, R])) rfl).trans ?_) rfl).trans rfl
    rw [hk]; exact mod_J (by decide)
  dsimp only [List.set_cons_succ, List.set_cons_zero]
  clear hk
  -- the ways
  obtain ⟨hv, hhv⟩ : ∃ hv, hv = halfN s := ⟨_, rfl⟩
  refine ends_set (N (hv.map fun n => 2 * n)) ?_ ?_
  · refine list_of ((pairs_of (n := 9) [.val (.list (s.map D)), .val (.int ((k : Int) - 3))] (fun i k => J (2 * dist (s.getD i 0) (s.getD k 0))) (by decide) (range_of (n := 9) (by decide) rfl) rfl (fun i hi => range_of (n := i) (by (first | lia | omega)) rfl) (fun i j hi hj => ?_)).trans ?_)
    · exact (pcall_of (l := [D (s.getD i 0), D (s.getD j 0), .int ((k : Int) - 3)]) (pcons_of ((p2_of (a := .list (s.map D)) (b := J i) rfl rfl).trans (row_D (by (first | lia | omega)) (by (first | lia | omega)))) (pcons_of ((p2_of (a := .list (s.map D)) (b := J j) rfl rfl).trans (row_D (by (first | lia | omega)) (by (first | lia | omega)))) (pcons_of rfl rfl)))).trans (lev_D _ (sD i hi) (sD j (by (first | lia | omega))))
    · rw [hhv]
      unfold halfN
      rw [List.map_map, pairsN_map]
      rfl
  dsimp only [List.set_cons_succ, List.set_cons_zero]
  have h36 : hv.length = 36 := by rw [hhv, hs]; rfl
  have h7 : ∀ n ∈ hv, n ≤ 7 := fun n hn => by
    rw [hhv] at hn
    unfold halfN pairsN at hn
    obtain ⟨i, hi, hn⟩ := List.mem_flatMap.mp hn
    obtain ⟨j, hj, rfl⟩ := List.mem_map.mp hn
    have hi := List.mem_range.mp hi
    have hj := List.mem_range.mp hj
    have h1 := sD i hi
    have h2 := sD j (by (first | lia | omega))
    have h3 : dist (s.getD i 0) (s.getD j 0) ≤ 7 := by unfold dist; (first | lia | omega)
    exact h3
  have hsum : hv.sum + hv.length ≤ 1000 := by
    have := sum_le h7
    (first | lia | omega)
  -- the lead
  refine ends_set (.str (leadT hv)) ?_ ?_
  · refine lead_of (list_of ((pcomp_one [U] (fun n => J (2 * n)) J (l := hv) (pl_of ?_) rfl rfl (fun n hn => ?_) (by unfold lim; (first | lia | omega))).trans rfl)) hsum
    · show some (N (hv.map fun n => 2 * n)) = _
      unfold N
      rw [List.map_map]; rfl
    · refine (p2_of (a := J (2 * n)) (b := J 2) rfl rfl).trans ((fdiv_J (by decide) (by decide +kernel)).trans ?_)
      rw [Nat.mul_div_cancel_left _ (by decide)]
  dsimp only [List.set_cons_succ, List.set_cons_zero]
  refine ends_if (test_of (v := .bool false) ?_ rfl) ?_
  · refine (p2_of (a := J (2 * hv.sum)) (b := J (2 * hv.sum)) ?_ ?_).trans (ne_self rfl)
    · refine (p2_of (a := J 2) (b := J hv.sum) rfl ((pmeth_of (a := .str (leadT hv)) (l := [.str [32]]) rfl (pcons_of rfl rfl)).trans ?_)).trans (mul_J (by decide +kernel) (small_le (by (first | lia | omega))))
      rw [countS_one, lead_count]
    · refine (pcall_of (l := [N (hv.map fun n => 2 * n)]) (pcons_of rfl rfl)).trans ((sum_ok (hv.map fun n => 2 * n)).trans ?_)
      rw [sum_twice]
  -- the drawn rows
  refine ends_set (.list [D (x + 1), D (y + 1), D (z + 1)]) ?_ ?_
  · have e0 : Option.map V.list (Option.bind (some [V.int 0]) fun l => if l.length ≤ lim then some l else none) = some (N [0]) := by
      rw [Option.bind_some, if_pos (by simp [lim])]; rfl
    exact (pcall_of (l := [.list (postsV (x + 1) (y + 1) (z + 1) (maxN [p, q, r] + 1)), N [0]]) (pcons_of rfl (pcons_of e0 rfl))).trans (crowd_ok (a := x + 1) (b := y + 1) (c := z + 1) (hs := [0]) (low50 x4) (low50 y4) (low50 z4) (by simp) (fun h hh => by simp at hh; (first | lia | omega)) fun h hh => posts_get (by simp at hh; (first | lia | omega)))
  dsimp only [List.set_cons_succ, List.set_cons_zero]
  -- framed
  obtain ⟨w10, v10, e10⟩ := framed_ok (n := y + 1) (m := x + 1) (one_four y4) (one_four x4) k14
  obtain ⟨w20, v20, e20⟩ := framed_ok (n := z + 1) (m := x + 1) (one_four z4) (one_four x4) k14
  obtain ⟨w21, v21, e21⟩ := framed_ok (n := z + 1) (m := y + 1) (one_four z4) (one_four y4) k14
  refine ends_set (.list ([w10, w20, w21].map V.int)) ?_ ?_
  · refine list_of ((pairs_of (n := 3) [.val (.list [D (x + 1), D (y + 1), D (z + 1)]), .val (.int ((k : Int) - 3))] (fun i j => .int (if i = 1 then w10 else if j = 0 then w20 else w21)) (by decide) (range_of (n := 3) (by decide) rfl) rfl (fun i hi => range_of (n := i) (by (first | lia | omega)) rfl) (fun i j hi hj => ?_)).trans rfl)
    have hit : ∀ m, m < 3 → itemV (.list [D (x + 1), D (y + 1), D (z + 1)]) (J m) = some (D ([x + 1, y + 1, z + 1].getD m 0)) := fun m hm => row_D (s := [x + 1, y + 1, z + 1]) (by simpa using hm) (by (first | lia | omega))
    have hle : ∀ m, m < 3 → [x + 1, y + 1, z + 1].getD m 0 ≤ 4 := fun m hm => by
      match m, hm with
      | 0, _ => show x + 1 ≤ 4; (first | lia | omega)
      | 1, _ => show y + 1 ≤ 4; (first | lia | omega)
      | 2, _ => show z + 1 ≤ 4; (first | lia | omega)
    have hl1 := hle i hi
    have hl2 := hle j (by (first | lia | omega))
    refine (pcall_of (l := [.str ([40] ++ List.replicate ([x + 1, y + 1, z + 1].getD i 0) 46 ++ [120]), .str ([91] ++ List.replicate ([x + 1, y + 1, z + 1].getD j 0) 46 ++ [88]), .int ((k : Int) - 3)]) (pcons_of ((p2_of (b := .str [120]) ((p2_of (a := .str [40]) rfl ((p2_of (a := .list [D (x + 1), D (y + 1), D (z + 1)]) (b := J i) rfl rfl).trans (hit i hi))).trans (add_c (by (first | lia | omega)))) rfl).trans (add_cd (by (first | lia | omega))))
      (pcons_of ((p2_of (b := .str [88]) ((p2_of (a := .str [91]) rfl ((p2_of (a := .list [D (x + 1), D (y + 1), D (z + 1)]) (b := J j) rfl rfl).trans (hit j (by (first | lia | omega))))).trans (add_c (by (first | lia | omega)))) rfl).trans (add_cd (by (first | lia | omega)))) (pcons_of rfl rfl)))).trans ?_
    match i, j, hi, hj with
    | 1, 0, _, _ => exact v10
    | 2, 0, _, _ => exact v20
    | 2, 1, _, _ => exact v21
  dsimp only [List.set_cons_succ, List.set_cons_zero]
  -- due
  refine ends_set (.list ([3 + 2 * (dist (y + 1) (x + 1) : Int), 3 + 2 * (dist (z + 1) (x + 1) : Int), 3 + 2 * (dist (z + 1) (y + 1) : Int)].map V.int)) ?_ ?_
  · refine list_of ((pairs_of (n := 3) [.val (N [x + 1, y + 1, z + 1])] (fun i j => J (3 + 2 * dist ([x + 1, y + 1, z + 1].getD i 0) ([x + 1, y + 1, z + 1].getD j 0))) (by decide) (range_of (n := 3) (by decide) rfl) rfl (fun i hi => range_of (n := i) (by (first | lia | omega)) rfl) (fun i j hi hj => ?_)).trans rfl)
    have hit : ∀ m, m < 3 → itemV (N [x + 1, y + 1, z + 1]) (J m) = some (J ([x + 1, y + 1, z + 1].getD m 0)) := fun m hm => item_J (by (first | lia | omega)) (by
      match m, hm with
      | 0, _ => rfl
      | 1, _ => rfl
      | 2, _ => rfl)
    have hle : ∀ m, m < 3 → [x + 1, y + 1, z + 1].getD m 0 ≤ 4 := fun m hm => by
      match m, hm with
      | 0, _ => show x + 1 ≤ 4; (first | lia | omega)
      | 1, _ => show y + 1 ≤ 4; (first | lia | omega)
      | 2, _ => show z + 1 ≤ 4; (first | lia | omega)
    have hl1 := hle i hi
    have hl2 := hle j (by (first | lia | omega))
    refine (p2_of (a := J 3) rfl ((p2_of (a := J 2) rfl ((pcall_of (pcons_of ((p2_of ((p2_of (a := N [x + 1, y + 1, z + 1]) (b := J i) rfl rfl).trans (hit i hi)) ((p2_of (a := N [x + 1, y + 1, z + 1]) (b := J j) rfl rfl).trans (hit j (by (first | lia | omega))))).trans rfl) rfl)).trans (abs_dist _ _))).trans (mul_J (by decide +kernel) (small_le (by unfold dist; (first | lia | omega)))))).trans (add_J _ _)
  dsimp only [List.set_cons_succ, List.set_cons_zero]
  refine ends_if (test_of (v := .bool false) ?_ rfl) ?_
  · refine (p2_of (a := .list ([w10, w20, w21].map fun v => .int (if (k : Int) - 3 + 1 < v then (k : Int) - 3 + 1 else v))) (b := .list ([w10, w20, w21].map fun v => .int (if (k : Int) - 3 + 1 < v then (k : Int) - 3 + 1 else v))) ?_ ?_).trans (ne_self ?_)
    · exact list_of (pcomp_one [U, .val (.int ((k : Int) - 3))] V.int (fun v => .int (if (k : Int) - 3 + 1 < v then (k : Int) - 3 + 1 else v)) (l := [w10, w20, w21]) (pl_of rfl) rfl rfl (fun v _ => (pcall_of (l := [.int v, .int ((k : Int) - 3 + 1)]) (pcons_of rfl (pcons_of ((p2_of (a := .int ((k : Int) - 3)) (b := .int 1) rfl rfl).trans rfl) rfl))).trans (min2_int _ _)) (by simp [lim]))
    · refine list_of ((pcomp_one [U, .val (.int ((k : Int) - 3))] V.int (fun v => .int (if (k : Int) - 3 + 1 < v then (k : Int) - 3 + 1 else v)) (l := [3 + 2 * (dist (y + 1) (x + 1) : Int), 3 + 2 * (dist (z + 1) (x + 1) : Int), 3 + 2 * (dist (z + 1) (y + 1) : Int)]) (pl_of rfl) rfl rfl (fun v _ => (pcall_of (l := [.int v, .int ((k : Int) - 3 + 1)]) (pcons_of rfl (pcons_of ((p2_of (a := .int ((k : Int) - 3)) (b := .int 1) rfl rfl).trans rfl) rfl))).trans (min2_int _ _)) (by simp [lim])).trans ?_)
      simp only [List.map_cons, List.map_nil, e10, e20, e21]
    · have := lev_vints ([w10, w20, w21].map fun v => if (k : Int) - 3 + 1 < v then (k : Int) - 3 + 1 else v) 3
      rw [List.map_map] at this
      exact this
  -- the width
  obtain ⟨W, hW⟩ : ∃ W, W = 7 + ns.length % 4 := ⟨_, rfl⟩
  have W7 : 7 ≤ W := by (first | lia | omega)
  have W10 : W ≤ 10 := by (first | lia | omega)
  refine ends_set (J W) ?_ ?_
  · refine (p2_of (a := J 7) (b := J (ns.length % 4)) rfl ((p2_of (a := J ns.length) (b := J 4) ((pcall_of (l := [I ns]) (pcons_of rfl rfl)).trans ?_) rfl).trans (mod_J (by decide)))).trans ((add_J _ _).trans (by rw [hW]))
    refine (len_list (ns.map V.int)).trans ?_
    rw [List.length_map]
  dsimp only [List.set_cons_succ, List.set_cons_zero]
  clear hW e10 e20 e21 v10 v20 v21
  -- the sizes
  have s0 : s ≠ [] := fun e => by rw [e] at s9; cases s9
  have t0 : t ≠ [] := fun e => by rw [e] at t9; cases t9
  refine ends_set (N s) (list_of (lens_of (pl_of rfl) (by (first | lia | omega)) fun n => rfl)) ?_
  dsimp only [List.set_cons_succ, List.set_cons_zero]
  have d7 : ∀ n ∈ [x + 1, y + 1, z + 1], n ≤ 7 := fun n hn => by
    simp only [List.mem_cons, List.not_mem_nil, or_false] at hn
    (first | lia | omega)
  have c7 : ∀ n ∈ [p, q, r], n ≤ 7 := fun n hn => by
    simp only [List.mem_cons, List.not_mem_nil, or_false] at hn
    (first | lia | omega)
  refine ends_set (N (shares [x + 1, y + 1, z + 1])) (shares_of rfl (by simp) d7) ?_
  dsimp only [List.set_cons_succ, List.set_cons_zero]
  refine ends_set (N (shares [p, q, r])) (shares_of rfl (by simp) c7) ?_
  dsimp only [List.set_cons_succ, List.set_cons_zero]
  refine ends_set (N (shares s)) (shares_of rfl s0 s7) ?_
  dsimp only [List.set_cons_succ, List.set_cons_zero]
  refine ends_set (N (shares t)) (shares_of (list_of (lens_of (pl_of rfl) (by (first | lia | omega)) fun n => rfl)) t0 t7) ?_
  dsimp only [List.set_cons_succ, List.set_cons_zero]
  -- what is known of them
  have F1 := FC.first
  have F2 := FC.second
  have F3 := FC.auto
  have F4 := FC.clen
  have F5 := FC.few1
  have F6 := FC.few2
  have F7 := FC.few3
  have F8 := FC.len1
  have F9 := FC.len2
  have F10 := FC.own
  have F11 := FC.image
  have F12 := FC.three
  rw [← hs] at F1 F3 F4 F5 F8 F10 F11
  rw [← ht] at F2 F3 F4 F6 F7 F9 F10 F11
  rw [← hhv] at F3 F4
  have rl : (shares [x + 1, y + 1, z + 1]).length ≤ 4 := by
    unfold shares
    rw [List.length_map, List.length_range]
    have := le_maxN (maxN_mem (l := [x + 1, y + 1, z + 1]) (by simp))
    have h1 := maxN_mem (l := [x + 1, y + 1, z + 1]) (by simp)
    have h2 := minN_mem (l := [x + 1, y + 1, z + 1]) (by simp)
    simp only [List.mem_cons, List.not_mem_nil, or_false] at h1 h2
    (first | lia | omega)
  have cl : (shares [p, q, r]).length ≤ 4 := by
    unfold shares
    rw [List.length_map, List.length_range]
    (first | lia | omega)
  have clast := shares_last (l := [p, q, r]) (by simp)
  have rlast := shares_last (l := [x + 1, y + 1, z + 1]) (by simp)
  have rlt : ∀ d ∈ shares [x + 1, y + 1, z + 1], d < 128 := fun d hd => by have := shares_le _ d hd; simp at this; (first | lia | omega)
  have clt : ∀ d ∈ shares [p, q, r], d < 128 := fun d hd => by have := shares_le _ d hd; simp at this; (first | lia | omega)
  generalize hrows : shares [x + 1, y + 1, z + 1] = rows at *
  generalize hclock : shares [p, q, r] = clock at *
  generalize hfst : shares s = first at *
  generalize hsec : shares t = second at *
  obtain ⟨like, behind, hcs⟩ : ∃ like behind, counts hv = like :: behind := by
    cases hc : counts hv with
    | nil =>
      have := counts_last (l := hv) (fun e => by rw [e] at h36; cases h36)
      rw [hc] at this
      cases this
    | cons a b => exact ⟨a, b, rfl⟩
  rw [hcs] at F3 F4
  have hmir : mirror (like :: behind) = behind.reverse ++ [9 + 2 * like] ++ behind := rfl
  rw [hmir] at F3
  have hbl : second.length = behind.length + 1 := F4.symm
  -- the middle
  refine ends_set (J behind.length) ?_ ?_
  · refine (p2_of (a := J second.length) (b := J 1) ((pcall_of (l := [N second]) (pcons_of rfl rfl)).trans ?_) rfl).trans ((sub_J (by (first | lia | omega))).trans (by rw [hbl]; rfl))
    refine (len_list _).trans ?_
    rw [List.length_map]
  dsimp only [List.set_cons_succ, List.set_cons_zero]
  refine ends_set (J (poly W second)) (d2i_call rfl rfl (few_lt F6) W7 W10 (by (first | lia | omega))) ?_
  dsimp only [List.set_cons_succ, List.set_cons_zero]
  -- the figures
  have P7 : 2 ^ 7 ≤ 2 ^ W := Nat.pow_le_pow_right (by decide) W7
  have rv : ∀ d ∈ second.reverse, d < 128 := fun d hd => few_lt F6 d (List.mem_reverse.mp hd)
  have L1 := poly_rev_lt (few_lt F6) W7 W10 (by (first | lia | omega))
  have L2 := poly_rev_lt rv W7 W10 (by rw [List.length_reverse]; (first | lia | omega))
  have hprod : poly W second * poly W second.reverse = poly W (autoN second) := (poly_conv W second.reverse second).symm
  have hal : (autoN second).length = 2 * behind.length + 1 := by rw [F3]; simp; (first | lia | omega)
  have hfl : figs W (poly W (autoN second)) = (autoN second).length := figs_last (by (first | lia | omega)) (few_last F7) fun d hd => by have := few_lt F7 d hd; (first | lia | omega)
  have hdg : digs W (figs W (poly W (autoN second))) (poly W (autoN second)) = autoN second := by
    rw [hfl]
    exact digs_of W _ fun d hd => by have := few_lt F7 d hd; (first | lia | omega)
  have hWl : W * (autoN second).length ≤ 10 * 13 := Nat.mul_le_mul W10 (by (first | lia | omega))
  refine ends_set (N (behind.reverse ++ [9 + 2 * like] ++ behind)) ?_ ?_
  · refine (pcall_of (l := [J (poly W second * poly W second.reverse), J W]) (pcons_of ((p2_of (a := J (poly W second)) rfl (d2i_call (l := second.reverse) (rev_N rfl) rfl rv W7 W10 (by rw [List.length_reverse]; (first | lia | omega)))).trans (mul_J (small_nat L1 (by decide)) (small_nat L2 (by decide)))) (pcons_of rfl rfl))).trans ?_
    rw [hprod, i2d_of (by (first | lia | omega)) (by (first | lia | omega)) ?_ (by (first | lia | omega)) (by rw [hfl]; (first | lia | omega)), hdg, F3]
    · refine Nat.lt_of_lt_of_le (poly_lt W _ fun d hd => by have := few_lt F7 d hd; (first | lia | omega)) (Nat.pow_le_pow_right (by decide) ?_)
      (first | lia | omega)
  dsimp only [List.set_cons_succ, List.set_cons_zero]
  -- like and behind
  have hmid : (behind.reverse ++ [9 + 2 * like] ++ behind)[behind.length]? = some (9 + 2 * like) := by
    rw [List.append_assoc, List.getElem?_append_right (by simp), List.length_reverse, Nat.sub_self]; rfl
  have hl2 : like ≤ 36 := by
    have := counts_le hv like (by rw [hcs]; exact .head _)
    (first | lia | omega)
  refine ends_set (J like) ?_ ?_
  · refine (p2_of (a := J (2 * like)) (b := J 2) ((p2_of (a := J (9 + 2 * like)) (b := J 9) ((p2_of (a := N (behind.reverse ++ [9 + 2 * like] ++ behind)) (b := J behind.length) rfl rfl).trans (item_J (by (first | lia | omega)) hmid)) rfl).trans ((sub_J (by (first | lia | omega))).trans (by rw [Nat.add_sub_cancel_left]))) rfl).trans ((fdiv_J (by decide) (by decide +kernel)).trans (by rw [Nat.mul_div_cancel_left _ (by decide)]))
  dsimp only [List.set_cons_succ, List.set_cons_zero]
  refine ends_set (N behind) ?_ ?_
  · refine (list_of (slice_from (l := (behind.reverse ++ [9 + 2 * like] ++ behind).map J) (k := behind.length + 1) rfl ((p2_of (a := J behind.length) (b := J 1) rfl rfl).trans (add_J _ _)))).trans ?_
    rw [← List.map_drop, List.drop_append_of_le_length (by simp), List.drop_of_length_le (by simp)]
    rfl
  dsimp only [List.set_cons_succ, List.set_cons_zero]
  -- the figures are the same from both ends
  have hbl2 : behind.length ≤ 6 := by (first | lia | omega)
  refine ends_if (test_of (v := .bool false) ?_ rfl) ?_
  · refine (p2_of (a := N (behind.reverse ++ [9 + 2 * like] ++ behind)) (b := N (behind.reverse ++ [9 + 2 * like] ++ behind)) rfl ?_).trans (ne_self (lev_ints 3 _))
    refine (list_of (add_L (a := behind.reverse.map J ++ [J (9 + 2 * like)]) (b := behind.map J) (add_L (a := behind.reverse.map J) (b := [J (9 + 2 * like)]) (rev_L rfl) (disp_of (pcons_of ((p2_of (a := J 9) (b := J (2 * like)) rfl ((p2_of (a := J 2) (b := J like) rfl rfl).trans (mul_J (by decide +kernel) (small_le (by (first | lia | omega)))))).trans (add_J _ _)) rfl) (by simp [lim])) (by simp; (first | lia | omega))) (pl_of rfl) (by simp; (first | lia | omega)))).trans ?_
    unfold N
    rw [List.map_append, List.map_append]
    rfl
  -- the norm
  refine ends_if (test_of (v := .bool false) ?_ rfl) ?_
  · refine (p2_of (a := nrm (like :: behind)) (b := nrm (like :: behind)) ((p1_of (a := .ws (nrm (like :: behind))) ((ws_of rfl hsum).trans (by rw [hcs]))).trans rfl) ?_).trans (ne_self (lev_tups 2 _))
    exact tup_of (pcons_of (tupL_of (add_L (a := [J like]) (b := behind.map J) (disp_of (pcons_of rfl rfl) (by simp [lim])) (pl_of rfl) (by simp; (first | lia | omega)))) (pcons_of rfl rfl)) (by simp [lim])
  -- the drawn rows' number
  refine ends_set (J (poly W rows)) (d2i_call rfl rfl rlt W7 W10 (by (first | lia | omega))) ?_
  dsimp only [List.set_cons_succ, List.set_cons_zero]
  have Pf : poly W first = poly W rows * poly W clock := by rw [F1, poly_conv]
  have Ps : poly W second = poly W rows * poly W clock.reverse := by rw [F2, poly_conv]
  have hc0 : 0 < poly W clock := poly_pos clast
  have hr0 : 0 < poly W rows := poly_pos rlast
  have hcr : 0 < poly W clock.reverse := by
    have := poly_pos (w := W) (few_last F6)
    rw [Ps] at this
    exact Nat.pos_of_mul_pos_left this
  have crt : ∀ d ∈ clock.reverse, d < 128 := fun d hd => clt d (List.mem_reverse.mp hd)
  have B1 := poly_rev_lt (few_lt F5) W7 W10 (by (first | lia | omega))
  have B2 := poly_rev_lt clt W7 W10 (by (first | lia | omega))
  have B3 := poly_rev_lt crt W7 W10 (by rw [List.length_reverse]; (first | lia | omega))
  have h100 : 2 ^ 90 < 2 ^ 100 := by decide
  refine ends_if (test_of (v := .bool false) ?_ rfl) ?_
  · refine (p2_of (a := .tup [J (poly W rows), J 0]) (b := .tup [J (poly W rows), J 0]) ?_ (tup_of (pcons_of rfl (pcons_of rfl rfl)) (by simp [lim]))).trans (ne_self rfl)
    refine (pcall_of (l := [J (poly W first), J (poly W clock)]) (pcons_of (d2i_call rfl rfl (few_lt F5) W7 W10 (by (first | lia | omega))) (pcons_of (d2i_call rfl rfl clt W7 W10 (by (first | lia | omega))) rfl))).trans ((divB_ok (by (first | lia | omega)) hc0 (by (first | lia | omega))).trans ?_)
    rw [Pf, Nat.mul_div_cancel _ hc0, Nat.mul_mod_left]
  refine ends_if (test_of (v := .bool false) ?_ rfl) ?_
  · refine (p2_of (a := .tup [.int (-(poly W rows : Int)), J 0]) (b := .tup [.int (-(poly W rows : Int)), J 0]) ?_ (tup_of (l := [.int (-(poly W rows : Int)), J 0]) (pcons_of ((p1_of (a := J (poly W rows)) rfl).trans rfl) (pcons_of rfl rfl)) (by simp [lim]))).trans (ne_self rfl)
    exact (pcall_of (l := [.int (-(poly W second : Int)), J (poly W clock.reverse)]) (pcons_of ((p1_of (a := J (poly W second)) rfl).trans rfl) (pcons_of (d2i_call (rev_N rfl) rfl crt W7 W10 (by rw [List.length_reverse]; (first | lia | omega))) rfl))).trans (divB_neg (by (first | lia | omega)) hcr (by (first | lia | omega)) hr0 Ps)
  -- the five leads
  have ssum : s.sum + s.length ≤ 1000 := by have := sum_le s7; (first | lia | omega)
  have tsum : t.sum + t.length ≤ 1000 := by have := sum_le t7; (first | lia | omega)
  refine ends_set (.ws (nrm (counts s))) (ws_of (lead_of rfl ssum) ssum) ?_
  dsimp only [List.set_cons_succ, List.set_cons_zero]
  refine ends_set (.ws (nrm (counts t))) (ws_of (lead_of (list_of (lens_of (pl_of rfl) (by (first | lia | omega)) fun n => rfl)) tsum) tsum) ?_
  dsimp only [List.set_cons_succ, List.set_cons_zero]
  refine ends_set (J (minN s + maxN s)) ?_ ?_
  · exact (p2_of (a := J (minN s)) (b := J (maxN s)) ((pcall_of (l := [N s]) (pcons_of rfl rfl)).trans (min_ok s0)) ((pcall_of (l := [N s]) (pcons_of rfl rfl)).trans (max_ok s0))).trans (add_J _ _)
  dsimp only [List.set_cons_succ, List.set_cons_zero]
  have i7 : ∀ n ∈ imageN s, n ≤ 14 := fun n hn => by
    obtain ⟨d, hd, rfl⟩ := List.mem_map.mp hn
    have := s7 _ (maxN_mem s0)
    have := s7 _ (minN_mem s0)
    (first | lia | omega)
  have isum : (imageN s).sum + (imageN s).length ≤ 1000 := by
    have := sum_le i7
    have e : (imageN s).length = s.length := by unfold imageN; rw [List.length_map]
    (first | lia | omega)
  refine ends_set (.ws (nrm (counts (imageN s)))) ?_ ?_
  · refine ws_of (lead_of (list_of ((pcomp_one [U, .val (J (minN s + maxN s))] J (fun n => J (minN s + maxN s - n)) (l := s) (pl_of rfl) rfl rfl (fun n hn => ?_) (by unfold lim; (first | lia | omega))).trans ?_)) isum) isum
    · have := le_maxN hn
      exact (p2_of (a := J (minN s + maxN s)) (b := J n) rfl rfl).trans (sub_J (by (first | lia | omega)))
    · unfold imageN
      rw [List.map_map]; rfl
  dsimp only [List.set_cons_succ, List.set_cons_zero]
  -- the first three ways, and the three at the first row
  have ht3 : hv.take 3 = [dist (y + 1) (x + 1), dist (z + 1) (x + 1), dist (z + 1) (y + 1)] := by
    rw [hhv, hs]
    show [dist (y + 1 + p) (x + 1 + p), dist (z + 1 + p) (x + 1 + p), dist (z + 1 + p) (y + 1 + p)] = _
    rw [dist_add (y + 1) (x + 1) p, dist_add (z + 1) (x + 1) p, dist_add (z + 1) (y + 1) p]
  have hl3 : [hv.getD 3 0, hv.getD 15 0, hv.getD 18 0] = [dist q p, dist r p, dist r q] := by
    rw [hhv, hs]
    show [dist (x + 1 + q) (x + 1 + p), dist (x + 1 + r) (x + 1 + p), dist (x + 1 + r) (x + 1 + q)] = _
    rw [dist_add' q p (x + 1), dist_add' r p (x + 1), dist_add' r q (x + 1)]
  have w3 := three_sum (dist_le (low4 y4) (low4 x4)) (dist_le (low4 z4) (low4 x4)) (dist_le (low4 z4) (low4 y4))
  have w3' := three_sum (dist_le (low3 q4) (low3 p4)) (dist_le (low3 r4) (low3 p4)) (dist_le (low3 r4) (low3 q4))
  refine ends_set (.ws (nrm (counts [dist (y + 1) (x + 1), dist (z + 1) (x + 1), dist (z + 1) (y + 1)]))) ?_ ?_
  · refine ws_of (lead_of (list_of ((pcomp_one [U] (fun n => J (2 * n)) J (l := hv.take 3) (pl_of ((list_of (slice_to (l := (hv.map fun n => 2 * n).map J) (k := 3) rfl rfl)).trans ?_)) rfl rfl (fun n hn => ?_) (by rw [List.length_take]; unfold lim; (first | lia | omega))).trans ?_)) w3) w3
    · rw [List.map_map, ← List.map_take]; rfl
    · refine (p2_of (a := J (2 * n)) (b := J 2) rfl rfl).trans ((fdiv_J (by decide) (by decide +kernel)).trans ?_)
      rw [Nat.mul_div_cancel_left _ (by decide)]
    · rw [ht3]
  dsimp only [List.set_cons_succ, List.set_cons_zero]
  refine ends_set (.ws (nrm (counts [dist q p, dist r p, dist r q]))) ?_ ?_
  · refine ws_of (lead_of (list_of ((pcomp_one [U, .val (N (hv.map fun n => 2 * n))] J (fun i => J (hv.getD i 0)) (l := [3, 15, 18]) (pl_of (disp_L (pcons_of rfl (pcons_of rfl (pcons_of rfl rfl))) (by simp [lim]))) rfl rfl (fun n hn => ?_) (by simp [lim])).trans ?_)) w3') w3'
    · have hn36 : n < 36 := by
        simp only [List.mem_cons, List.not_mem_nil, or_false] at hn
        (first | lia | omega)
      refine (p2_of (a := J (2 * hv.getD n 0)) (b := J 2) ((p2_of (a := N (hv.map fun n => 2 * n)) (b := J n) rfl rfl).trans (item_J (by (first | lia | omega)) ?_)) rfl).trans ((fdiv_J (by decide) (by decide +kernel)).trans ?_)
      · rw [List.getElem?_map, List.getD_eq_getElem?_getD, List.getElem?_eq_getElem (by (first | lia | omega))]; rfl
      · rw [Nat.mul_div_cancel_left _ (by decide)]
    · rw [← hl3]; rfl
  dsimp only [List.set_cons_succ, List.set_cons_zero]
  -- what is told
  refine ends_set (.list [.bool (clock == clock.reverse), .bool (rows == rows.reverse), .bool (rows == clock || rows == clock.reverse)]) ?_ ?_
  · rw [← F10, ← F11, ← F12]
    exact disp_L (pcons_of (equal_call rfl rfl) (pcons_of (equal_call rfl rfl) (pcons_of (equal_call rfl rfl) rfl))) (by simp [lim])
  dsimp only [List.set_cons_succ, List.set_cons_zero]
  refine ends_if (test_of (v := .bool false) ?_ rfl) ?_
  · refine (p2_of (a := .list []) (b := .list []) ?_ (disp_L (f := fun x x_1 => some []) (Γ := []) (σ := []) rfl (by simp [lim]))).trans (ne_self rfl)
    exact list_of rfl
  refine ends_ret ?_
  refine (p2_of (a := .list [.bool (clock == clock.reverse), .bool (rows == rows.reverse), .bool (rows == clock || rows == clock.reverse)]) (b := .list [.bool (clock == clock.reverse), .bool (rows == rows.reverse), .bool (rows == clock || rows == clock.reverse)]) rfl ?_).trans ?_
  · exact disp_L (pcons_of ((p2_of (a := N clock) (b := N clock.reverse) rfl (rev_N rfl)).trans (eq_ints _ _)) (pcons_of ((p2_of (a := N rows) (b := N rows.reverse) rfl (rev_N rfl)).trans (eq_ints _ _)) (pcons_of (por_of ((p2_of (a := N rows) (b := N clock) rfl rfl).trans (eq_ints _ _)) ((p2_of (a := N rows) (b := N clock.reverse) rfl (rev_N rfl)).trans (eq_ints _ _))) rfl))) (by simp [lim])
  · unfold eqV
    rw [if_pos (by rfl), veq_self 4 _ (by rfl)]
theorem pure_law (ns : List Int) : pfn xs_law 1 walk_law.1 [.list (ns.map .int)] = some (.bool true) := by
  obtain ⟨a, b, c, d, e, f, hN, h1, h2, h3, h4, h5, h6⟩ := numbers_ok ns
  obtain ⟨A, rfl⟩ := Int.eq_ofNat_of_zero_le h1
  obtain ⟨B, rfl⟩ := Int.eq_ofNat_of_zero_le h2
  obtain ⟨C, rfl⟩ := Int.eq_ofNat_of_zero_le h3
  obtain ⟨P, rfl⟩ := Int.eq_ofNat_of_zero_le h4
  obtain ⟨Q, rfl⟩ := Int.eq_ofNat_of_zero_le h5
  obtain ⟨R, rfl⟩ := Int.eq_ofNat_of_zero_le h6
  obtain ⟨Γ', σ', e⟩ := law_core (ns := ns) (A := A) (B := B) (C := C) (P := P) (Q := Q) (R := R) hN rfl rfl rfl rfl rfl rfl
  exact pfn_val _ rfl rfl e
theorem done : PySem.Challenge.rw_sc0100_01.Holds := join fun ns _ => pure_law ns
end Mine
set_option maxRecDepth 100000 in
set_option maxHeartbeats 8000000 in
theorem PySem.Challenge.cw_sc0100_01_holds : PySem.Challenge.rw_sc0100_01.Holds := by
  exact Mine.done
